/- (Transaction).CarriesError by its contract. -/
import Derived.Test.YbulknkwData
namespace Go.Proofs.Ybulknkw
open Go Go.Eng Go.RowKit
set_option linter.unusedSimpArgs false
set_option linter.unusedVariables false

theorem take_errs {R : List Ra} {i : Nat} {p : Ra} (hp : R[i]? = some p) (h : errs (R.take i) = false) : errs (R.take (i + 1)) = p.2.2.any fun c => c.2.isSome := by
  have hlt := (List.getElem?_eq_some_iff.1 hp).1
  have : R.take (i + 1) = R.take i ++ [p] := by
    rw [List.take_succ_eq_append_getElem hlt]
    congr 2
    exact (List.getElem?_eq_some_iff.1 hp).2
  rw [this]
  unfold errs at h ⊢
  rw [List.any_append, h]
  simp
theorem errs_true {R : List Ra} {i : Nat} {p : Ra} (hp : R[i]? = some p) (h : (p.2.2.any fun c => c.2.isSome) = true) : errs R = true := by
  unfold errs
  rw [List.any_eq_true]
  exact ⟨p, List.mem_of_getElem? hp, h⟩

set_option maxRecDepth 100000 in
theorem carries {w : World} {B : Nat} {av : Value} {R : List Ra} {k id imm acked : Value} (h : ReplyAt w B av R) (hR : R.length ≤ 100000) (hC : ∀ p, p ∈ R → p.2.2.length ≤ 100000) :
    Calls Yba.prog 6 #[.agg #[k, id, imm, av, .pointer none, acked]] w fun e w' => ∃ v, e = .returned v ∧ (v = .bool (errs R) ∧ Fr (fun _ => False) w w') := by
  obtain ⟨aa, acap, hav, ha0⟩ := own_value h.own
  refine calls_of Yba.func6 rfl rfl ?_
  refine WP.seq ?_
  have hfr0 : Fr (fun _ => False) w w := Fr.refl w
  have FRsz := Fr.size hfr0
  refine WP.region ?_
  refine RL.val rfl (ex_box (by conv => lhs; whnf) (by first | (conv => lhs; simp only [sz_al, sz_sr, sz_dn]) | rfl)) ?_
  refine RL.val rfl (ex_assign (by conv => lhs; whnf)) ?_
  refine RL.nil ?_
  refine WP.seq ?_
  refine WP.seq ?_
  refine WP.region ?_
  refine RL.val rfl (ex_fieldAddr (by conv => lhs; whnf) Yba.fo35_4) ?_
  refine RL.val rfl (ex_loadB (by conv => lhs; whnf) Yba.sc29 (an' (by first | (simp only [sz_al, sz_sr, sz_dn]; done) | rfl | omega | (simp only [sz_al, sz_sr, sz_dn]; omega))) (by conv => lhs; whnf)) ?_
  refine RL.val rfl (ex_neq_nil (by conv => lhs; whnf) (by conv => lhs; whnf) Yba.pt29) ?_
  refine RL.nil ?_
  refine WP.cond_false rfl ?_
  refine WP.skip ?_
  refine WP.seqc (fun F wr => errs R = false ∧ Fr (fun _ => False) w wr) ?_ ?_
  rotate_left
  · rintro F wr ⟨he, hf⟩
    refine WP.seq ?_
    refine WP.region ?_
    refine RL.val rfl (ex_assign (by conv => lhs; whnf)) ?_
    refine RL.nil ?_
    refine WP.ret ?_
    repeat (first | refine thenQ_ret ?_ | refine blockQ_ret ?_)
    exact bodyQ_tmp rfl ⟨by rw [he]; rfl, hf⟩
  refine WP.seqc (fun F wr => Has F [(11, .slice aa R.length acap), (12, .int .i64 R.length), (13, .int .i64 (0 : Nat))] ∧ Fr (fun _ => False) w wr) ?_ ?_
  · rw [hav]
    refine WP.region ?_
    refine RL.val rfl (ex_fieldAddr (by conv => lhs; whnf) Yba.fo35_3) ?_
    refine RL.val rfl (ex_loadB (by conv => lhs; whnf) Yba.sc32 (an' (by first | (simp only [sz_al, sz_sr, sz_dn]; done) | rfl | omega | (simp only [sz_al, sz_sr, sz_dn]; omega))) (by conv => lhs; whnf)) ?_
    refine RL.val rfl (ex_len (by conv => lhs; whnf) Yba.sl32) ?_
    refine RL.val rfl (ex_move (by conv => lhs; whnf)) ?_
    refine RL.nil ?_
    exact ⟨⟨rfl, rfl, rfl, trivial⟩, (Fr.alloc hfr0 _)⟩
  rintro F wr ⟨hF, hfr⟩
  refine WP.block ?_
  refine WP.loopk (fun n F wr => ∃ i : Nat, n = R.length - i ∧ i ≤ R.length ∧ errs (R.take i) = false ∧ Has F [(11, .slice aa R.length acap), (12, .int .i64 R.length), (13, .int .i64 (i : Nat))] ∧ Fr (fun _ => False) w wr) R.length ⟨0, rfl, Nat.zero_le _, rfl, hF, hfr⟩ ?_
  clear hF hfr F wr
  rintro n F wr ⟨i, rfl, hi, he, hF, hfr⟩ K hK
  obtain ⟨G, rfl⟩ := hF.get
  clear hF
  refine WP.seq ?_
  have FRsz := Fr.size hfr
  refine WP.region ?_
  refine RL.val rfl (ex_lss (by conv => lhs; whnf) (by conv => lhs; whnf)) ?_
  refine RL.nil ?_
  refine WP.seq ?_
  refine WP.cond _ (by conv => lhs; whnf) (fun hlt => ?_) (fun hlt => ?_)
  rotate_left
  · refine WP.exit ?_
    repeat (first | refine thenQ_exit ?_ | refine blockQ_hit ?_ | refine blockQ_miss rfl ?_)
    have hge : ¬ ((i : Int) < R.length) := of_decide_eq_false hlt
    have : i = R.length := by omega
    subst this
    rw [List.take_length] at he
    exact ⟨he, hfr⟩
  have hlt' : (i : Int) < R.length := of_decide_eq_true hlt
  clear hlt
  refine WP.skip ?_
  have hil : i < R.length := by omega
  obtain ⟨p, hp⟩ : ∃ p, R[i]? = some p := ⟨R[i], List.getElem?_eq_getElem hil⟩
  have hpm := List.mem_of_getElem? hp
  have hcs := hC p hpm
  obtain ⟨_, g, cap, cur, hv, hgB, hg, hnc, hrow⟩ := own_open actCells_len (h.keep hfr).own (by omega) (by omega)
  have hrow := hrow i p hp
  have hcm := (h.keep hfr).cmds p hpm
  obtain ⟨ca, ccap, hcv, hc0⟩ := own_value hcm
  refine WP.seqc (fun F wr => (p.2.2.any fun c => c.2.isSome) = false ∧ Has F [(11, .slice aa R.length acap), (12, .int .i64 R.length), (13, .int .i64 (i : Nat))] ∧ Fr (fun _ => False) w wr) ?_ ?_
  rotate_left
  · rintro F wr ⟨he2, hF, hfr⟩
    obtain ⟨G, rfl⟩ := hF.get
    have FRsz := Fr.size hfr
    refine WP.region ?_
    refine RL.val rfl (ex_add (by conv => lhs; whnf) (by conv => lhs; whnf) (wrap_i64 (by omega) (by omega))) ?_
    refine RL.val rfl (ex_move (by conv => lhs; whnf)) ?_
    refine RL.nil ?_
    exact hK (R.length - (i + 1)) _ _ (by omega) ⟨i + 1, rfl, by omega, by rw [take_errs hp he]; exact he2, ⟨rfl, rfl, rfl, trivial⟩, hfr⟩
  refine WP.block ?_
  refine WP.seq ?_
  have hv' : Value.slice aa R.length acap = .slice (some ⟨g, 0, none⟩) R.length cap := hav.symm.trans hv
  have haa : aa = some ⟨g, 0, none⟩ := by cases hv'; rfl
  subst haa
  refine WP.region ?_
  refine RL.val rfl (ex_ix0 (by conv => lhs; whnf) (by conv => lhs; whnf) Yba.sl32 Yba.sz43 rfl (by omega)) ?_
  refine RL.val rfl (ex_loadR (by conv => lhs; whnf) hg Yba.ag43 (actCells_len p) hrow) ?_
  refine RL.val rfl (ex_alloc Yba.zo43 (by first | (conv => lhs; simp only [sz_al, sz_sr, sz_dn]) | rfl)) ?_
  refine RL.unit (ex_storeW (by conv => lhs; whnf) (by conv => lhs; whnf) Yba.ag43 (an' (by first | (simp only [sz_al, sz_sr, sz_dn]; done) | rfl | omega | (simp only [sz_al, sz_sr, sz_dn]; omega))) (by rfl) (by rfl) (by simp [actCells, hcv, Value.oneCell'])) ?_
  refine RL.nil ?_
  refine WP.seq ?_
  refine WP.seq ?_
  refine WP.region ?_
  refine RL.val rfl (ex_fieldAddr (by conv => lhs; whnf) Yba.fo43_3) ?_
  refine RL.val rfl (ex_loadB (by conv => lhs; whnf) Yba.sc29 (sr_eq (an' (by first | (simp only [sz_al, sz_sr, sz_dn]; done) | rfl | omega | (simp only [sz_al, sz_sr, sz_dn]; omega)))) (by conv => lhs; whnf)) ?_
  refine RL.val rfl (ex_neq_nil (by conv => lhs; whnf) (by conv => lhs; whnf) Yba.pt29) ?_
  refine RL.nil ?_
  refine WP.cond_false rfl ?_
  refine WP.skip ?_
  refine WP.seqc (fun F wr => Has F [(11, .slice (some ⟨g, 0, none⟩) R.length acap), (12, .int .i64 R.length), (13, .int .i64 (i : Nat)), (21, .slice ca p.2.2.length ccap), (22, .int .i64 p.2.2.length), (23, .int .i64 (0 : Nat))] ∧ Fr (fun _ => False) w wr) ?_ ?_
  · refine WP.region ?_
    refine RL.val rfl (ex_fieldAddr (by conv => lhs; whnf) Yba.fo43_2) ?_
    refine RL.val rfl (ex_loadB (v := .slice ca p.2.2.length ccap) (by conv => lhs; whnf) Yba.sc41 (sr_eq (an' (by first | (simp only [sz_al, sz_sr, sz_dn]; done) | rfl | omega | (simp only [sz_al, sz_sr, sz_dn]; omega)))) (by simp [actCells, nth, hcv])) ?_
    refine RL.val rfl (ex_len (by conv => lhs; whnf) Yba.sl41) ?_
    refine RL.val rfl (ex_move (by conv => lhs; whnf)) ?_
    refine RL.nil ?_
    exact ⟨⟨rfl, rfl, rfl, rfl, rfl, rfl, trivial⟩, (Fr.set (Fr.alloc hfr _) _ _ (fun hh => by (try simp only [sz_al, sz_sr, sz_dn] at hh); (try simp only [sz_al, sz_sr, sz_dn]); (first | omega | (dsimp only; omega) | exact .inl rfl | exact .inr (.inl rfl))))⟩
  clear hg hrow hcm hfr
  rintro F wr ⟨hF, hfr⟩
  refine WP.block ?_
  refine WP.loopk (fun n F wr => ∃ j : Nat, n = p.2.2.length - j ∧ j ≤ p.2.2.length ∧ ((p.2.2.take j).any fun c => c.2.isSome) = false ∧ Has F [(11, .slice (some ⟨g, 0, none⟩) R.length acap), (12, .int .i64 R.length), (13, .int .i64 (i : Nat)), (21, .slice ca p.2.2.length ccap), (22, .int .i64 p.2.2.length), (23, .int .i64 (j : Nat))] ∧ Fr (fun _ => False) w wr) p.2.2.length ⟨0, rfl, Nat.zero_le _, rfl, hF, hfr⟩ ?_
  clear hF hfr F wr
  rintro n F wr ⟨j, rfl, hj, hje, hF, hfr⟩ K hK
  obtain ⟨G, rfl⟩ := hF.get
  clear hF
  refine WP.seq ?_
  have FRsz := Fr.size hfr
  refine WP.region ?_
  refine RL.val rfl (ex_lss (by conv => lhs; whnf) (by conv => lhs; whnf)) ?_
  refine RL.nil ?_
  refine WP.seq ?_
  refine WP.cond _ (by conv => lhs; whnf) (fun hlt => ?_) (fun hlt => ?_)
  rotate_left
  · refine WP.exit ?_
    repeat (first | refine thenQ_exit ?_ | refine blockQ_hit ?_ | refine blockQ_miss rfl ?_)
    have hge : ¬ ((j : Int) < p.2.2.length) := of_decide_eq_false hlt
    have : j = p.2.2.length := by omega
    subst this
    rw [List.take_length] at hje
    exact ⟨hje, ⟨rfl, rfl, rfl, trivial⟩, hfr⟩
  have hlt' : (j : Int) < p.2.2.length := of_decide_eq_true hlt
  clear hlt
  refine WP.skip ?_
  have hjl : j < p.2.2.length := by omega
  obtain ⟨c, hc⟩ : ∃ c, p.2.2[j]? = some c := ⟨p.2.2[j], List.getElem?_eq_getElem hjl⟩
  obtain ⟨_, g', cap', cur', hv2, _, hg2, _, hrow2⟩ := own_open cmdCells_len ((h.keep hfr).cmds p hpm) (by omega) (by omega)
  have hrow2 := hrow2 j c hc
  have hv3 : Value.slice ca p.2.2.length ccap = .slice (some ⟨g', 0, none⟩) p.2.2.length cap' := hcv.symm.trans hv2
  have hca : ca = some ⟨g', 0, none⟩ := by cases hv3; rfl
  subst hca
  refine WP.seqc (fun F wr => c.2.isSome = false ∧ Has F [(11, .slice (some ⟨g, 0, none⟩) R.length acap), (12, .int .i64 R.length), (13, .int .i64 (i : Nat)), (21, .slice (some ⟨g', 0, none⟩) p.2.2.length ccap), (22, .int .i64 p.2.2.length), (23, .int .i64 (j : Nat))] ∧ Fr (fun _ => False) w wr) ?_ ?_
  rotate_left
  · rintro F wr ⟨he2, hF, hfr⟩
    obtain ⟨G, rfl⟩ := hF.get
    have FRsz := Fr.size hfr
    refine WP.region ?_
    refine RL.val rfl (ex_add (by conv => lhs; whnf) (by conv => lhs; whnf) (wrap_i64 (by omega) (by omega))) ?_
    refine RL.val rfl (ex_move (by conv => lhs; whnf)) ?_
    refine RL.nil ?_
    refine hK (p.2.2.length - (j + 1)) _ _ (by omega) ⟨j + 1, rfl, by omega, ?_, ⟨rfl, rfl, rfl, rfl, rfl, rfl, trivial⟩, hfr⟩
    have : p.2.2.take (j + 1) = p.2.2.take j ++ [c] := by
      rw [List.take_succ_eq_append_getElem hjl]
      congr 2
      exact (List.getElem?_eq_some_iff.1 hc).2
    rw [this, List.any_append, hje]
    simp [he2]
  refine WP.block ?_
  refine WP.seq ?_
  refine WP.region ?_
  refine RL.val rfl (ex_ix0 (by conv => lhs; whnf) (by conv => lhs; whnf) Yba.sl41 Yba.sz47 rfl (by omega)) ?_
  refine RL.val rfl (ex_loadR (by conv => lhs; whnf) hg2 Yba.ag47 (cmdCells_len c) hrow2) ?_
  refine RL.val rfl (ex_alloc Yba.zo47 (by first | (conv => lhs; simp only [sz_al, sz_sr, sz_dn]) | rfl)) ?_
  refine RL.unit (ex_storeW (by conv => lhs; whnf) (by conv => lhs; whnf) Yba.ag47 (an' (by first | (simp only [sz_al, sz_sr, sz_dn]; done) | rfl | omega | (simp only [sz_al, sz_sr, sz_dn]; omega))) (by rfl) (by rfl) (by rfl)) ?_
  refine RL.nil ?_
  refine WP.seq ?_
  refine WP.region ?_
  refine RL.val rfl (ex_fieldAddr (by conv => lhs; whnf) Yba.fo47_5) ?_
  refine RL.val rfl (ex_loadB (by conv => lhs; whnf) Yba.sc29 (sr_eq (an' (by first | (simp only [sz_al, sz_sr, sz_dn]; done) | rfl | omega | (simp only [sz_al, sz_sr, sz_dn]; omega)))) (by conv => lhs; whnf)) ?_
  refine RL.val rfl (ex_neq_nil (by conv => lhs; whnf) (by conv => lhs; whnf) Yba.pt29) ?_
  refine RL.nil ?_
  refine WP.cond c.2.isSome (by conv => lhs; whnf) (fun hc1 => ?_) (fun hc1 => ?_)
  · refine WP.seq ?_
    refine WP.region ?_
    refine RL.val rfl (ex_assign (by conv => lhs; whnf)) ?_
    refine RL.nil ?_
    refine WP.ret ?_
    repeat (first | refine thenQ_ret ?_ | refine blockQ_ret ?_)
    refine bodyQ_tmp rfl ⟨?_, (Fr.set (Fr.alloc hfr _) _ _ (fun hh => by (try simp only [sz_al, sz_sr, sz_dn] at hh); (try simp only [sz_al, sz_sr, sz_dn]); (first | omega | (dsimp only; omega) | exact .inl rfl | exact .inr (.inl rfl))))⟩
    rw [errs_true hp (by rw [List.any_eq_true]; exact ⟨c, List.mem_of_getElem? hc, hc1⟩)]
    rfl
  · refine WP.skip ?_
    exact ⟨hc1, ⟨rfl, rfl, rfl, rfl, rfl, rfl, trivial⟩, (Fr.set (Fr.alloc hfr _) _ _ (fun hh => by (try simp only [sz_al, sz_sr, sz_dn] at hh); (try simp only [sz_al, sz_sr, sz_dn]); (first | omega | (dsimp only; omega) | exact .inl rfl | exact .inr (.inl rfl))))⟩

end Go.Proofs.Ybulknkw
