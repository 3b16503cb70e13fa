/- The law's second half: from 'var seen []string' on. -/
import Derived.Test.YbulknkwView
import Derived.Test.YbulknkwCarries
namespace Go.Proofs.Ybulknkw
open Go Go.Eng Go.RowKit
set_option linter.unusedSimpArgs false
set_option linter.unusedVariables false

/-- An action that came in. -/
structure Aa where
  ctx : ByteArray
  ta : Option Addr
  tc : Nat
  terms : List ByteArray
structure ActsAt (w : World) (B : Nat) (aa : Option Addr) (A : List Aa) : Prop where
  at_ : ∀ (i : Nat) (a : Aa), A[i]? = some a → ∃ bb oo, aa = some ⟨bb, oo, none⟩ ∧ bb < B ∧ w.cell? ⟨bb, oo + i * 2 + 0, none⟩ = some (.string a.ctx) ∧ w.cell? ⟨bb, oo + i * 2 + 1, none⟩ = some (.slice a.ta a.terms.length a.tc)
  terms : ∀ (i : Nat) (a : Aa), A[i]? = some a → ∀ (j : Nat) (t : ByteArray), a.terms[j]? = some t → ∃ tb to, a.ta = some ⟨tb, to, none⟩ ∧ tb < B ∧ w.cell? ⟨tb, to + j, none⟩ = some (.string t)
theorem ActsAt.keep {w w' : World} {B : Nat} {aa : Option Addr} {A : List Aa} (h : ActsAt w B aa A) (hf : Fr (fun k => B ≤ k) w w') : ActsAt w' B aa A :=
  ⟨fun i a ha => let ⟨bb, oo, h1, h2, h3, h4⟩ := h.at_ i a ha; ⟨bb, oo, h1, h2, hf.cell h3 (by show ¬ B ≤ bb; omega), hf.cell h4 (by show ¬ B ≤ bb; omega)⟩,
   fun i a ha j t ht => let ⟨tb, to, h1, h2, h3⟩ := h.terms i a ha j t ht; ⟨tb, to, h1, h2, hf.cell h3 (by show ¬ B ≤ tb; omega)⟩⟩
theorem FailsAt.keepB {w w' : World} {B : Nat} {fa : Option Addr} {fails : List Bool} (h : FailsAt w B fa fails) (hf : Fr (fun k => B ≤ k) w w') : FailsAt w' B fa fails :=
  ⟨fun j b hb => let ⟨bb, oo, h1, h2, h3⟩ := h.at_ j b hb; ⟨bb, oo, h1, h2, hf.cell h3 (by show ¬ B ≤ bb; omega)⟩⟩
theorem FailsAt.pure {w w' : World} {B : Nat} {fa : Option Addr} {fails : List Bool} (h : FailsAt w B fa fails) (hf : Fr (fun _ => False) w w') : FailsAt w' B fa fails := h.keepB (hf.mono (fun _ _ h => h.elim))
theorem ReqAt.pure {w w' : World} {B : Nat} {av : Value} {L : List Rq} (h : ReqAt w B av L) (hf : Fr (fun _ => False) w w') : ReqAt w' B av L :=
  ⟨hf.own h.own (fun _ _ => id), fun p hp => hf.own (h.cmds p hp) (fun _ _ => id), h.one⟩
structure Same (A : List Aa) (L : List Rq) : Prop where
  len : L.length = A.length
  eq : ∀ (i : Nat) (a : Aa) (p : Rq), A[i]? = some a → L[i]? = some p → p.ctx = a.ctx ∧ p.terms = a.terms

def rightN : Nat → Code → Code
  | 0, c => c
  | n + 1, .seq _ b => rightN n b
  | _ + 1, c => c
def bodyOf (f : Func) : Code := f.body.getD .skip

set_option maxRecDepth 100000 in
set_option maxHeartbeats 2000000 in
theorem tail {w0 w : World} {B : Nat} {idn : Int} {k4 imm ep av : Value} {aa fa : Option Addr} {ac fc b13 : Nat} {A : List Aa} {fails : List Bool} {L : List Rq} {F : Nat → Value} (hB : B = w0.heap.size)
    (hF : Has F [(0, .int .u32 idn), (3, .slice aa A.length ac), (9, .pointer (some ⟨B, 0, none⟩)), (13, .pointer (some ⟨b13, 0, none⟩))])
    (h9 : w.heap[B]? = some (.cells #[.slice fa fails.length fc] 24 (0, 0))) (h13 : w.heap[b13]? = some (.cells #[k4, .int .u32 idn, imm, av, ep, .slice none 0 0] 35 (0, 0)))
    (hreq : ReqAt w B av L) (hsame : Same A L) (hacts : ActsAt w0 B aa A) (hfails : FailsAt w0 B fa fails) (hfr : Fr (fun k => B ≤ k) w0 w)
    (hA : A.length ≤ 1024) (hT : ∀ a, a ∈ A → a.terms.length ≤ 1024) (htot : off L L.length ≤ 4096) (hfl : fails.length ≤ 4096) :
    WP Yba.prog 308 (rightN 7 (bodyOf Yba.f3)) (bodyQ Yba.prog Yba.f3 (fun v w' => v = .bool true ∧ Fr (fun k => B ≤ k) w0 w')) F w := by
  obtain ⟨G, rfl⟩ := hF.get
  clear hF
  have hBw : B < w.heap.size := lt_of h9
  have hLT : ∀ p, p ∈ L → p.terms.length ≤ 1024 := fun p hp => by
    obtain ⟨i, hi, rfl⟩ := List.getElem_of_mem hp
    have h1 : i < A.length := by rw [← hsame.len]; exact hi
    have := (hsame.eq i A[i] L[i] (List.getElem?_eq_getElem h1) (List.getElem?_eq_getElem hi)).2
    rw [this]
    exact hT _ (List.getElem_mem h1)
  have hLl : L.length = A.length := hsame.len
  refine WP.seq ?_
  have hfrp : Fr (fun _ => False) w w := Fr.refl w
  have hfails1 := hfails.keepB hfr
  have LT9 := lt_of h9
  have LT13 := lt_of h13
  have FRsz := Fr.size hfrp
  refine WP.region ?_
  refine RL.val rfl (ex_alloc Yba.zo25 (by first | (conv => lhs; simp only [sz_al, sz_sr, sz_dn]) | rfl)) ?_
  refine RL.nil ?_
  refine WP.seq ?_
  refine WP.region ?_
  refine RL.val rfl (ex_alloc Yba.zo3 (by first | (conv => lhs; simp only [sz_al, sz_sr, sz_dn]) | rfl)) ?_
  refine RL.unit (ex_store (by conv => lhs; whnf) (by conv => lhs; whnf) Yba.sc3 rfl (an' (by first | (simp only [sz_al, sz_sr, sz_dn]; done) | rfl | omega | (simp only [sz_al, sz_sr, sz_dn]; omega))) rfl) ?_
  refine RL.nil ?_
  refine WP.seq ?_
  refine WP.region ?_
  refine RL.val rfl (ex_mf3 (by conv => lhs; whnf) (by conv => lhs; whnf) (by conv => lhs; whnf)) ?_
  refine RL.val rfl (ex_assign (by conv => lhs; whnf)) ?_
  refine RL.nil ?_
  refine WP.seqc (fun F wa => ∃ rv R sn b17 b20, Has F [(0, .int .u32 idn), (3, .slice aa A.length ac), (9, .pointer (some ⟨B, 0, none⟩)), (17, .pointer (some ⟨b17, 0, none⟩)), (20, .pointer (some ⟨b20, 0, none⟩))] ∧
    wa.heap[b20]? = some (.cells #[.int .i64 1, .int .u32 idn, .bool false, rv, .pointer none, .slice none 0 0] 35 (0, 0)) ∧ ReplyAt wa B rv R ∧ View L fails R sn wa ∧ wa.heap[B]? = some (.cells #[.slice fa fails.length fc] 24 (0, 0)) ∧
    (∃ sv, wa.heap[b17]? = some (.cells #[sv] 25 (0, 0)) ∧ wa.ownsRow B 9 1 sv sn.length (sn.flatMap strCells)) ∧ (R.length ≤ 100000 ∧ ∀ q, q ∈ R → q.2.2.length ≤ 100000) ∧ Fr (fun k => B ≤ k) w0 wa) ?_ ?_
  · refine WP.region ?_
    refine RL.val rfl (ex_loadW (by conv => lhs; whnf) (sr_ne (al (al h13)) (by (try simp only [sz_al, sz_sr, sz_dn]); omega)) Yba.ag35 (by rfl)) ?_
    refine RL.val rfl (ex_move (by conv => lhs; whnf)) ?_
    refine RL.call rfl (ex_call2 rfl (by rfl) (by conv => lhs; whnf) Yba.fun5) (answer (B := B) (bk := w.heap.size + 1) (bf := B) (bs := w.heap.size) (sn := []) (k0 := 0) (fails := fails) (hreq.pure (Fr.set (Fr.alloc (Fr.alloc hfrp _) _) _ _ (fun hh => by (try simp only [sz_al, sz_sr, sz_dn] at hh); (try simp only [sz_al, sz_sr, sz_dn]); (first | omega | (dsimp only; omega) | exact .inl rfl | exact .inr (.inl rfl))))) ⟨(sr_eq (an' (by first | (simp only [sz_al, sz_sr, sz_dn]; done) | rfl | omega | (simp only [sz_al, sz_sr, sz_dn]; omega)))), (sr_ne (al (al h9)) (by (try simp only [sz_al, sz_sr, sz_dn]); omega)), ⟨_, (sr_ne (al (an' (by first | (simp only [sz_al, sz_sr, sz_dn]; done) | rfl | omega | (simp only [sz_al, sz_sr, sz_dn]; omega)))) (by (try simp only [sz_al, sz_sr, sz_dn]); omega)), World.ownsRow_nil _ _ _ _⟩, hfails1.pure (Fr.set (Fr.alloc (Fr.alloc hfrp _) _) _ _ (fun hh => by (try simp only [sz_al, sz_sr, sz_dn] at hh); (try simp only [sz_al, sz_sr, sz_dn]); (first | omega | (dsimp only; omega) | exact .inl rfl | exact .inr (.inl rfl)))), by omega, by omega⟩ (by simp only [sz_al, sz_sr, sz_dn]; omega) (by omega) (fun p hp => (by have := hLT p hp; omega)) (by omega) (by omega) (by omega) (by simp)) ?_
    rintro v w2 ⟨rv, R, rfl, hrep, hans, hfr2⟩
    have hsz2 := hfr2.size
    have hfrB : Fr (fun k => B ≤ k) w0 w2 := (hfr.trans (Fr.mono (Fr.trans (S := fun k => B ≤ k) (Fr.mono (Fr.set (Fr.alloc (Fr.alloc hfrp _) _) _ _ (fun hh => by (try simp only [sz_al, sz_sr, sz_dn] at hh); (try simp only [sz_al, sz_sr, sz_dn]); (first | omega | (dsimp only; omega) | exact .inl rfl | exact .inr (.inl rfl)))) (fun _ _ h => h.elim)) hfr2 (fun k hk hs => by
      rcases hs with h | h | ⟨h, _⟩
      · subst h; omega
      · subst h; omega
      · exact h)) (fun _ _ h => h)) (fun _ _ h => h))
    have hcollect : ∃ sn, View L fails R sn w2 ∧ w2.heap[B]? = some (.cells #[.slice fa fails.length fc] 24 (0, 0)) ∧ (∃ sv, w2.heap[w.heap.size]? = some (.cells #[sv] 25 (0, 0)) ∧ w2.ownsRow B 9 1 sv sn.length (sn.flatMap strCells)) ∧ (R.length ≤ 100000 ∧ ∀ q, q ∈ R → q.2.2.length ≤ 100000) := by
      rcases hans with hd | ⟨i, j, p, t, g, hs⟩
      · exact ⟨_, view_done hd, hd.dos.hf, hd.dos.hs, hd.bound (by omega) (fun p hp => (by have := hLT p hp; omega))⟩
      · exact ⟨_, view_stop hs, hs.dos.hf, hs.dos.hs, hs.bound (by omega) (fun p hp => (by have := hLT p hp; omega))⟩
    obtain ⟨sn, hview, h9b, ⟨sv, h17b, hsown⟩, hbnd⟩ := hcollect
    have hrep' : ReplyAt w2 B rv R := ⟨own_base hrep.own (by simp only [sz_al, sz_sr, sz_dn]; omega), fun p hp => own_base (hrep.cmds p hp) (by simp only [sz_al, sz_sr, sz_dn]; omega)⟩
    obtain ⟨ra1, rc1, rfl, _⟩ := own_value hrep.own
    have hfrp2 : Fr (fun _ => False) w2 w2 := Fr.refl w2
    have LT9 := lt_of h9b
    have LT17 := lt_of h17b
    have FRsz := Fr.size hfrp2
    refine RL.val rfl (ex_alloc Yba.zo35 (by first | (conv => lhs; simp only [sz_al, sz_sr, sz_dn]) | rfl)) ?_
    refine RL.unit (ex_storeW (by conv => lhs; whnf) (by conv => lhs; whnf) Yba.ag35 (an' (by first | (simp only [sz_al, sz_sr, sz_dn]; done) | rfl | omega | (simp only [sz_al, sz_sr, sz_dn]; omega))) (by rfl) (by rfl) (by rfl)) ?_
    refine RL.nil ?_
    exact ⟨_, R, sn, _, _, ⟨rfl, rfl, rfl, rfl, rfl, trivial⟩, (sr_eq (an' (by first | (simp only [sz_al, sz_sr, sz_dn]; done) | rfl | omega | (simp only [sz_al, sz_sr, sz_dn]; omega)))), hrep'.keep (Fr.set (Fr.alloc hfrp2 _) _ _ (fun hh => by (try simp only [sz_al, sz_sr, sz_dn] at hh); (try simp only [sz_al, sz_sr, sz_dn]); (first | omega | (dsimp only; omega) | exact .inl rfl | exact .inr (.inl rfl)))), hview.keep (Fr.set (Fr.alloc hfrp2 _) _ _ (fun hh => by (try simp only [sz_al, sz_sr, sz_dn] at hh); (try simp only [sz_al, sz_sr, sz_dn]); (first | omega | (dsimp only; omega) | exact .inl rfl | exact .inr (.inl rfl)))), (sr_ne (al h9b) (by (try simp only [sz_al, sz_sr, sz_dn]); omega)), ⟨sv, (sr_ne (al h17b) (by (try simp only [sz_al, sz_sr, sz_dn]); omega)), Fr.own (Fr.set (Fr.alloc hfrp2 _) _ _ (fun hh => by (try simp only [sz_al, sz_sr, sz_dn] at hh); (try simp only [sz_al, sz_sr, sz_dn]); (first | omega | (dsimp only; omega) | exact .inl rfl | exact .inr (.inl rfl)))) hsown (fun _ _ => id)⟩, hbnd, hfrB.trans (Fr.set (Fr.alloc hfrp2 _) _ _ (fun hh => by (try simp only [sz_al, sz_sr, sz_dn] at hh); (try simp only [sz_al, sz_sr, sz_dn]); (first | omega | (dsimp only; omega) | exact .inl rfl | exact .inr (.inl rfl)))) (fun _ _ h => h.elim)⟩
  clear h9 h13 hreq hfr hfrp hfails1 hBw LT9 LT13 FRsz
  rintro F wa ⟨rv, R, sn, b17, b20, hF, h20, hrep, hview, h9, ⟨sv, h17, hsown⟩, ⟨hRl, hC⟩, hfr⟩
  obtain ⟨G, rfl⟩ := hF.get
  clear hF
  have hacts1 := hacts.keep hfr
  have hfails1 := hfails.keepB hfr
  have hfrp : Fr (fun _ => False) wa wa := Fr.refl wa
  obtain ⟨ra, rc, rfl, hra0⟩ := own_value hrep.own
  obtain ⟨sa, sc, rfl, hsa0⟩ := own_value hsown
  have hRC : ∀ q, q ∈ R → q.2.2.length ≤ 100000 := hC
  refine WP.seq ?_
  refine WP.seq ?_
  have LT9 := lt_of h9
  have LT17 := lt_of h17
  have LT20 := lt_of h20
  have FRsz := Fr.size hfrp
  have hidd : decide (idn ≠ idn) = false := by simp
  refine WP.region ?_
  refine RL.val rfl (ex_fieldAddr (by conv => lhs; whnf) Yba.fo35_0) ?_
  refine RL.val rfl (ex_loadB (by conv => lhs; whnf) Yba.sc28 h20 (by conv => lhs; whnf)) ?_
  refine RL.val rfl (ex_neq (by conv => lhs; whnf) (by conv => lhs; whnf)) ?_
  refine RL.val rfl (ex_move (by conv => lhs; whnf)) ?_
  refine RL.take (dj := 119) rfl rfl ?_
  refine RL.val rfl (ex_fieldAddr (by conv => lhs; whnf) Yba.fo35_1) ?_
  refine RL.take (dj := 119) rfl rfl ?_
  refine RL.val rfl (ex_loadB (by conv => lhs; whnf) Yba.sc22 h20 (by conv => lhs; whnf)) ?_
  refine RL.take (dj := 119) rfl rfl ?_
  refine RL.val rfl (ex_move (by conv => lhs; whnf)) ?_
  refine RL.take (dj := 119) rfl rfl ?_
  refine RL.val rfl (ex_neq (by conv => lhs; whnf) (by conv => lhs; whnf)) ?_
  refine RL.val rfl (ex_pick_f rfl (by conv => lhs; whnf)) ?_
  refine RL.val rfl (ex_move (by conv => lhs; whnf)) ?_
  refine RL.take (dj := 125) rfl (congrArg Value.bool hidd) ?_
  refine RL.val rfl (ex_fieldAddr (by conv => lhs; whnf) Yba.fo35_2) ?_
  refine RL.take (dj := 125) rfl (congrArg Value.bool hidd) ?_
  refine RL.val rfl (ex_loadB (by conv => lhs; whnf) Yba.sc4 h20 (by conv => lhs; whnf)) ?_
  refine RL.val rfl (ex_pick_f (congrArg Value.bool hidd) (by conv => lhs; whnf)) ?_
  refine RL.val rfl (ex_move (by conv => lhs; whnf)) ?_
  refine RL.take (dj := 129) rfl rfl ?_
  refine RL.val rfl (ex_fieldAddr (by conv => lhs; whnf) Yba.fo35_4) ?_
  refine RL.take (dj := 129) rfl rfl ?_
  refine RL.val rfl (ex_loadB (by conv => lhs; whnf) Yba.sc29 h20 (by conv => lhs; whnf)) ?_
  refine RL.take (dj := 129) rfl rfl ?_
  refine RL.val rfl (ex_neq_nil (by conv => lhs; whnf) (by conv => lhs; whnf) Yba.pt29) ?_
  refine RL.val rfl (ex_pick_f rfl (by conv => lhs; whnf)) ?_
  refine RL.val rfl (ex_move (by conv => lhs; whnf)) ?_
  refine RL.take (dj := 134) rfl rfl ?_
  refine RL.val rfl (ex_fieldAddr (by conv => lhs; whnf) Yba.fo35_5) ?_
  refine RL.take (dj := 134) rfl rfl ?_
  refine RL.val rfl (ex_loadB (by conv => lhs; whnf) Yba.sc33 h20 (by conv => lhs; whnf)) ?_
  refine RL.take (dj := 134) rfl rfl ?_
  refine RL.val rfl (ex_neq_nilslice (by conv => lhs; whnf) (by conv => lhs; whnf) Yba.sl33) ?_
  refine RL.val rfl (ex_pick_f rfl (by conv => lhs; whnf)) ?_
  refine RL.nil ?_
  refine WP.cond_false rfl ?_
  refine WP.skip ?_
  refine WP.seq ?_
  refine WP.region ?_
  refine RL.val rfl (ex_assign (by conv => lhs; whnf)) ?_
  refine RL.nil ?_
  refine WP.seqc (fun F wr => quietUpTo fails (off L L.length) ∧ Has F [(3, .slice aa A.length ac), (17, .pointer (some ⟨b17, 0, none⟩)), (20, .pointer (some ⟨b20, 0, none⟩)), (21, .int .i64 ((off L L.length : Nat) : Int))] ∧ Fr (fun _ => False) wa wr) ?_ ?_
  rotate_left
  · rintro F wr ⟨hq, hF, hfr2⟩
    obtain ⟨G, rfl⟩ := hF.get
    obtain ⟨f1, f2, f3⟩ := hview.fin hq
    refine WP.seq ?_
    have q17 := hfr2.keep h17 _root_.id
    have q20 := hfr2.keep h20 _root_.id
    have LT17 := lt_of q17
    have LT20 := lt_of q20
    have FRsz := Fr.size hfr2
    have hd1 : decide ((R.length : Int) = (A.length : Int)) = true := decide_eq_true (by omega)
    have hd2 : decide ((sn.length : Int) = ((off L L.length : Nat) : Int)) = true := decide_eq_true (by omega)
    refine WP.region ?_
    refine RL.val rfl (ex_fieldAddr (by conv => lhs; whnf) Yba.fo35_3) ?_
    refine RL.val rfl (ex_loadB (by conv => lhs; whnf) Yba.sc32 q20 (by conv => lhs; whnf)) ?_
    refine RL.val rfl (ex_len (by conv => lhs; whnf) Yba.sl32) ?_
    refine RL.val rfl (ex_move (by conv => lhs; whnf)) ?_
    refine RL.val rfl (ex_len (by conv => lhs; whnf) Yba.sl23) ?_
    refine RL.val rfl (ex_eql (by conv => lhs; whnf) (by conv => lhs; whnf)) ?_
    refine RL.val rfl (ex_move (by conv => lhs; whnf)) ?_
    refine RL.take (dj := 297) rfl (congrArg Value.bool hd1) ?_
    refine RL.val rfl (ex_loadB (by conv => lhs; whnf) Yba.sc25 q17 (by conv => lhs; whnf)) ?_
    refine RL.take (dj := 297) rfl (congrArg Value.bool hd1) ?_
    refine RL.val rfl (ex_len (by conv => lhs; whnf) Yba.sl25) ?_
    refine RL.take (dj := 297) rfl (congrArg Value.bool hd1) ?_
    refine RL.val rfl (ex_move (by conv => lhs; whnf)) ?_
    refine RL.take (dj := 297) rfl (congrArg Value.bool hd1) ?_
    refine RL.val rfl (ex_eql (by conv => lhs; whnf) (by conv => lhs; whnf)) ?_
    refine RL.val rfl (ex_pick_t (congrArg Value.bool hd1) (by conv => lhs; whnf)) ?_
    refine RL.val rfl (ex_move (by conv => lhs; whnf)) ?_
    refine RL.take (dj := 303) rfl (congrArg Value.bool hd2) ?_
    refine RL.val rfl (ex_loadW (by conv => lhs; whnf) q20 Yba.ag35 (by rfl)) ?_
    refine RL.take (dj := 303) rfl (congrArg Value.bool hd2) ?_
    refine RL.call rfl (ex_call1 rfl (by conv => lhs; whnf) Yba.fun6) (carries (hrep.keep hfr2) (by omega) hRC) ?_
    rintro v w3 ⟨rfl, hfr3⟩
    refine RL.take (dj := 303) rfl (congrArg Value.bool hd2) ?_
    refine RL.val rfl (ex_not (by conv => lhs; whnf)) ?_
    refine RL.val rfl (ex_pick_t (congrArg Value.bool hd2) (by conv => lhs; whnf)) ?_
    refine RL.val rfl (ex_assign (by conv => lhs; whnf)) ?_
    refine RL.nil ?_
    refine WP.ret ?_
    repeat (first | refine thenQ_ret ?_ | refine blockQ_ret ?_)
    exact bodyQ_tmp rfl ⟨by rw [f3]; rfl, hfr.trans (hfr2.trans hfr3 (fun _ _ h => h)) (fun _ _ h => h.elim)⟩
  refine WP.seqc (fun F wr => Has F [(3, .slice aa A.length ac), (9, .pointer (some ⟨B, 0, none⟩)), (17, .pointer (some ⟨b17, 0, none⟩)), (20, .pointer (some ⟨b20, 0, none⟩)), (21, .int .i64 ((0 : Nat) : Int)), (140, .int .i64 (A.length : Nat)), (141, .int .i64 (0 : Nat))] ∧ Fr (fun _ => False) wa wr) ?_ ?_
  · refine WP.region ?_
    refine RL.val rfl (ex_move (by conv => lhs; whnf)) ?_
    refine RL.val rfl (ex_len (by conv => lhs; whnf) Yba.sl23) ?_
    refine RL.val rfl (ex_move (by conv => lhs; whnf)) ?_
    refine RL.nil ?_
    exact ⟨⟨rfl, rfl, rfl, rfl, rfl, rfl, rfl, trivial⟩, hfrp⟩
  rintro F wr ⟨hF, hfr2⟩
  refine WP.block ?_
  refine WP.loopk (fun n F wr => ∃ i : Nat, n = A.length - i ∧ i ≤ A.length ∧ quietUpTo fails (off L i) ∧ Has F [(3, .slice aa A.length ac), (9, .pointer (some ⟨B, 0, none⟩)), (17, .pointer (some ⟨b17, 0, none⟩)), (20, .pointer (some ⟨b20, 0, none⟩)), (21, .int .i64 ((off L i : Nat) : Int)), (140, .int .i64 (A.length : Nat)), (141, .int .i64 (i : Nat))] ∧ Fr (fun _ => False) wa wr) A.length ⟨0, rfl, Nat.zero_le _, fun c hc => (by simp [off] at hc), hF, hfr2⟩ ?_
  clear hF hfr2 F wr
  rintro n F wr ⟨i, rfl, hi, hq, hF, hfr2⟩ K hK
  obtain ⟨G, rfl⟩ := hF.get
  clear hF
  refine WP.seq ?_
  have FRsz := Fr.size hfr2
  refine WP.region ?_
  refine RL.val rfl (ex_lss (by conv => lhs; whnf) (by conv => lhs; whnf)) ?_
  refine RL.nil ?_
  refine WP.seq ?_
  refine WP.cond _ (by conv => lhs; whnf) (fun hlt => ?_) (fun hlt => ?_)
  rotate_left
  · refine WP.exit ?_
    repeat (first | refine thenQ_exit ?_ | refine blockQ_hit ?_ | refine blockQ_miss rfl ?_)
    have hge : ¬ ((i : Int) < A.length) := of_decide_eq_false hlt
    have : i = L.length := by omega
    subst this
    exact ⟨hq, ⟨rfl, rfl, rfl, rfl, trivial⟩, hfr2⟩
  have hlt' : (i : Int) < A.length := of_decide_eq_true hlt
  clear hlt
  refine WP.skip ?_
  have hil : i < A.length := by omega
  obtain ⟨a, ha⟩ : ∃ a, A[i]? = some a := ⟨A[i], List.getElem?_eq_getElem hil⟩
  obtain ⟨p, hp⟩ : ∃ p, L[i]? = some p := ⟨L[i]'(by omega), List.getElem?_eq_getElem _⟩
  obtain ⟨hctx, hterms⟩ := hsame.eq i a p ha hp
  have hpT := hLT p (List.mem_of_getElem? hp)
  have hoff := off_succ hp
  have hoffm := off_mono L (show i + 1 ≤ L.length by omega)
  obtain ⟨r, hr, hr1, hrj, hrl⟩ := hview.row i p hp hq
  have hiR : i < R.length := (List.getElem?_eq_some_iff.1 hr).1
  refine WP.seqc (fun F wr => quietUpTo fails (off L (i + 1)) ∧ Has F [(3, .slice aa A.length ac), (9, .pointer (some ⟨B, 0, none⟩)), (17, .pointer (some ⟨b17, 0, none⟩)), (20, .pointer (some ⟨b20, 0, none⟩)), (21, .int .i64 ((off L (i + 1) : Nat) : Int)), (140, .int .i64 (A.length : Nat)), (141, .int .i64 (i : Nat))] ∧ Fr (fun _ => False) wa wr) ?_ ?_
  rotate_left
  · rintro F wr ⟨hq2, hF, hfr3⟩
    obtain ⟨G, rfl⟩ := hF.get
    have FRsz := Fr.size hfr3
    refine WP.region ?_
    refine RL.val rfl (ex_add (by conv => lhs; whnf) (by conv => lhs; whnf) (wrap_i64 (by omega) (by omega))) ?_
    refine RL.val rfl (ex_move (by conv => lhs; whnf)) ?_
    refine RL.nil ?_
    exact hK (A.length - (i + 1)) _ _ (by omega) ⟨i + 1, rfl, by omega, hq2, ⟨rfl, rfl, rfl, rfl, rfl, rfl, rfl, trivial⟩, hfr3⟩
  obtain ⟨bb, oo, haa, hbb, hcc, hct⟩ := hacts1.at_ i a ha
  subst haa
  obtain ⟨_, g, cap, cur, hv, _, hg, _, hrow⟩ := own_open actCells_len (hrep.keep hfr2).own (by omega) (by omega)
  have hrow := hrow i r hr
  have hrm := List.mem_of_getElem? hr
  have hrown := hrep.cmds r hrm
  have hra : ra = some ⟨g, 0, none⟩ := by cases hv; rfl
  subst hra
  obtain ⟨ca, cc, hcv, hca0⟩ := own_value hrown
  refine WP.block ?_
  refine WP.seq ?_
  have q20 := hfr2.keep h20 _root_.id
  have LT20 := lt_of q20
  have FRsz := Fr.size hfr2
  refine WP.region ?_
  refine RL.val rfl (ex_move (by conv => lhs; whnf)) ?_
  refine RL.val rfl (ex_assign (by conv => lhs; whnf)) ?_
  refine RL.nil ?_
  refine WP.seq ?_
  refine WP.seq ?_
  have hd0 : decide ((R.length : Int) ≤ (i : Int)) = false := decide_eq_false (by omega)
  refine WP.region ?_
  refine RL.val rfl (ex_move (by conv => lhs; whnf)) ?_
  refine RL.val rfl (ex_fieldAddr (by conv => lhs; whnf) Yba.fo35_3) ?_
  refine RL.val rfl (ex_loadB (by conv => lhs; whnf) Yba.sc32 q20 (by conv => lhs; whnf)) ?_
  refine RL.val rfl (ex_len (by conv => lhs; whnf) Yba.sl32) ?_
  refine RL.val rfl (ex_geq (by conv => lhs; whnf) (by conv => lhs; whnf)) ?_
  refine RL.nil ?_
  refine WP.cond_false (congrArg Value.bool hd0) ?_
  refine WP.skip ?_
  refine WP.seqc (fun F wr => ∃ b23, Has F [(3, .slice (some ⟨bb, oo, none⟩) A.length ac), (9, .pointer (some ⟨B, 0, none⟩)), (17, .pointer (some ⟨b17, 0, none⟩)), (20, .pointer (some ⟨b20, 0, none⟩)), (21, .int .i64 ((off L i : Nat) : Int)), (140, .int .i64 (A.length : Nat)), (141, .int .i64 (i : Nat)), (22, .int .i64 (i : Nat)), (23, .pointer (some ⟨b23, 0, none⟩))] ∧ wr.heap[b23]? = some (.cells #[.string p.ctx, .slice none 0 0, .slice ca r.2.2.length cc, .pointer none] 43 (0, 0)) ∧ Fr (fun _ => False) wa wr) ?_ ?_
  · refine WP.region ?_
    refine RL.val rfl (ex_fieldAddr (by conv => lhs; whnf) Yba.fo35_3) ?_
    refine RL.val rfl (ex_loadB (by conv => lhs; whnf) Yba.sc32 q20 (by conv => lhs; whnf)) ?_
    refine RL.val rfl (ex_move (by conv => lhs; whnf)) ?_
    refine RL.val rfl (ex_ix0 (by conv => lhs; whnf) (by conv => lhs; whnf) Yba.sl32 Yba.sz43 rfl (by omega)) ?_
    refine RL.val rfl (ex_loadR (by conv => lhs; whnf) hg Yba.ag43 (actCells_len r) hrow) ?_
    refine RL.val rfl (ex_alloc Yba.zo43 (by first | (conv => lhs; simp only [sz_al, sz_sr, sz_dn]) | rfl)) ?_
    refine RL.unit (ex_storeW (by conv => lhs; whnf) (by conv => lhs; whnf) Yba.ag43 (an' (by first | (simp only [sz_al, sz_sr, sz_dn]; done) | rfl | omega | (simp only [sz_al, sz_sr, sz_dn]; omega))) (by rfl) (by rfl) (actCells_one r (own_one hrown))) ?_
    refine RL.nil ?_
    refine ⟨_, ⟨rfl, rfl, rfl, rfl, rfl, rfl, rfl, rfl, rfl, trivial⟩, ?_, (Fr.set (Fr.alloc hfr2 _) _ _ (fun hh => by (try simp only [sz_al, sz_sr, sz_dn] at hh); (try simp only [sz_al, sz_sr, sz_dn]); (first | omega | (dsimp only; omega) | exact .inl rfl | exact .inr (.inl rfl))))⟩
    rw [← hr1, ← hcv]
    exact (sr_eq (an' (by first | (simp only [sz_al, sz_sr, sz_dn]; done) | rfl | omega | (simp only [sz_al, sz_sr, sz_dn]; omega))))
  clear hg hrow hd0
  rintro F wr1 ⟨b23, hF, h23, hfr3⟩
  obtain ⟨G, rfl⟩ := hF.get
  clear hF
  refine WP.seq ?_
  refine WP.seq ?_
  have hdc : decide (p.ctx ≠ a.ctx) = false := by rw [hctx]; simp
  have LT23 := lt_of h23
  have FRsz := Fr.size hfr3
  refine WP.draw [] (by kernel_rfl) ?_
  refine AE.take 0 rfl (by kernel_rfl) rfl (fun w' hw => ex_fieldAddr (by conv => lhs; whnf) Yba.fo43_0) (Ext.drew (Ext.refl _) 1) ?_
  refine AE.take 1 rfl (by kernel_rfl) rfl (fun w' hw => ex_loadB (by conv => lhs; whnf) Yba.sc9 (hw.keep h23) (by conv => lhs; whnf)) (Ext.drew (Ext.refl _) 1) ?_
  refine AE.take 2 rfl (by kernel_rfl) rfl (fun w' hw => ex_move (by conv => lhs; whnf)) (Ext.drew (Ext.refl _) 1) ?_
  refine AE.take 3 rfl (by kernel_rfl) rfl (fun w' hw => ex_move (by conv => lhs; whnf)) (Ext.drew (Ext.refl _) 1) ?_
  refine AE.take 4 rfl (by kernel_rfl) rfl (fun w' hw => ex_indexAddr (by conv => lhs; whnf) (by conv => lhs; whnf) Yba.sl23 Yba.sz27 rfl (by omega)) (Ext.drew (Ext.refl _) 1) ?_
  refine AE.take 5 rfl (by kernel_rfl) rfl (fun w' hw => ex_fieldAddr (by conv => lhs; whnf) Yba.fo27_0) (Ext.drew (Ext.refl _) 1) ?_
  refine AE.take 6 rfl (by kernel_rfl) rfl (fun w' hw => ex_load (by conv => lhs; whnf) Yba.sc9 (hw.cell (Fr.cell hfr3 hcc _root_.id))) (Ext.drew (Ext.refl _) 1) ?_
  refine AE.take 7 rfl (by kernel_rfl) rfl (fun w' hw => ex_neq_str (by conv => lhs; whnf) (by conv => lhs; whnf)) (Ext.drew (Ext.refl _) 1) ?_
  refine AE.take 8 rfl (by kernel_rfl) rfl (fun w' hw => ex_move (by conv => lhs; whnf)) (Ext.drew (Ext.refl _) 1) ?_
  refine AE.takeg 9 (dj := 162) rfl (by kernel_rfl) rfl rfl (congrArg Value.bool hdc) (fun w' hw => ex_fieldAddr (by conv => lhs; whnf) Yba.fo43_1) (Ext.drew (Ext.refl _) 1) ?_
  refine AE.takeg 10 (dj := 162) rfl (by kernel_rfl) rfl rfl (congrArg Value.bool hdc) (fun w' hw => ex_loadB (by conv => lhs; whnf) Yba.sc36 (hw.keep h23) (by conv => lhs; whnf)) (Ext.drew (Ext.refl _) 1) ?_
  refine AE.takeg 11 (dj := 162) rfl (by kernel_rfl) rfl rfl (congrArg Value.bool hdc) (fun w' hw => ex_neq_nilslice (by conv => lhs; whnf) (by conv => lhs; whnf) Yba.sl36) (Ext.drew (Ext.refl _) 1) ?_
  refine AE.take 12 rfl (by kernel_rfl) rfl (fun w' hw => ex_pick_f (congrArg Value.bool hdc) (by conv => lhs; whnf)) (Ext.drew (Ext.refl _) 1) ?_
  refine AE.take 13 rfl (by kernel_rfl) rfl (fun w' hw => ex_move (by conv => lhs; whnf)) (Ext.drew (Ext.refl _) 1) ?_
  refine AE.takeg 14 (dj := 167) rfl (by kernel_rfl) rfl rfl rfl (fun w' hw => ex_fieldAddr (by conv => lhs; whnf) Yba.fo43_3) (Ext.drew (Ext.refl _) 1) ?_
  refine AE.takeg 15 (dj := 167) rfl (by kernel_rfl) rfl rfl rfl (fun w' hw => ex_loadB (by conv => lhs; whnf) Yba.sc29 (hw.keep h23) (by conv => lhs; whnf)) (Ext.drew (Ext.refl _) 1) ?_
  refine AE.takeg 16 (dj := 167) rfl (by kernel_rfl) rfl rfl rfl (fun w' hw => ex_neq_nil (by conv => lhs; whnf) (by conv => lhs; whnf) Yba.pt29) (Ext.drew (Ext.refl _) 1) ?_
  refine AE.take 17 rfl (by kernel_rfl) rfl (fun w' hw => ex_pick_f rfl (by conv => lhs; whnf)) (Ext.drew (Ext.refl _) 1) ?_
  refine AE.nil (by kernel_rfl) ?_
  refine WP.cond_false rfl ?_
  refine WP.skip ?_
  refine WP.seqc (fun F wr => quietUpTo fails (off L (i + 1)) ∧ Has F [(3, .slice (some ⟨bb, oo, none⟩) A.length ac), (9, .pointer (some ⟨B, 0, none⟩)), (17, .pointer (some ⟨b17, 0, none⟩)), (20, .pointer (some ⟨b20, 0, none⟩)), (21, .int .i64 ((off L (i + 1) : Nat) : Int)), (140, .int .i64 (A.length : Nat)), (141, .int .i64 (i : Nat)), (22, .int .i64 (i : Nat)), (23, .pointer (some ⟨b23, 0, none⟩))] ∧ wr.heap[b23]? = some (.cells #[.string p.ctx, .slice none 0 0, .slice ca r.2.2.length cc, .pointer none] 43 (0, 0)) ∧ Fr (fun _ => False) wa wr) ?_ ?_
  rotate_left
  · rintro F wr ⟨hq2, hF, h23, hfr3⟩
    obtain ⟨G, rfl⟩ := hF.get
    have hd5 : decide ((r.2.2.length : Int) ≠ (a.terms.length : Int)) = false := by rw [hrl hq2, hterms]; simp
    refine WP.seq ?_
    have LT23 := lt_of h23
    have FRsz := Fr.size hfr3
    refine WP.draw [] (by kernel_rfl) ?_
    refine AE.take 0 rfl (by kernel_rfl) rfl (fun w' hw => ex_fieldAddr (by conv => lhs; whnf) Yba.fo43_2) (Ext.drew (Ext.refl _) 1) ?_
    refine AE.take 1 rfl (by kernel_rfl) rfl (fun w' hw => ex_loadB (by conv => lhs; whnf) Yba.sc41 (hw.keep h23) (by conv => lhs; whnf)) (Ext.drew (Ext.refl _) 1) ?_
    refine AE.take 2 rfl (by kernel_rfl) rfl (fun w' hw => ex_len (by conv => lhs; whnf) Yba.sl41) (Ext.drew (Ext.refl _) 1) ?_
    refine AE.take 3 rfl (by kernel_rfl) rfl (fun w' hw => ex_move (by conv => lhs; whnf)) (Ext.drew (Ext.refl _) 1) ?_
    refine AE.take 4 rfl (by kernel_rfl) rfl (fun w' hw => ex_move (by conv => lhs; whnf)) (Ext.drew (Ext.refl _) 1) ?_
    refine AE.take 5 rfl (by kernel_rfl) rfl (fun w' hw => ex_indexAddr (by conv => lhs; whnf) (by conv => lhs; whnf) Yba.sl23 Yba.sz27 rfl (by omega)) (Ext.drew (Ext.refl _) 1) ?_
    refine AE.take 6 rfl (by kernel_rfl) rfl (fun w' hw => ex_fieldAddr (by conv => lhs; whnf) Yba.fo27_1) (Ext.drew (Ext.refl _) 1) ?_
    refine AE.take 7 rfl (by kernel_rfl) rfl (fun w' hw => ex_load (by conv => lhs; whnf) Yba.sc25 (hw.cell (Fr.cell hfr3 hct _root_.id))) (Ext.drew (Ext.refl _) 1) ?_
    refine AE.take 8 rfl (by kernel_rfl) rfl (fun w' hw => ex_len (by conv => lhs; whnf) Yba.sl25) (Ext.drew (Ext.refl _) 1) ?_
    refine AE.take 9 rfl (by kernel_rfl) rfl (fun w' hw => ex_neq (by conv => lhs; whnf) (by conv => lhs; whnf)) (Ext.drew (Ext.refl _) 1) ?_
    refine AE.nil (by kernel_rfl) ?_
    refine WP.cond_false (congrArg Value.bool hd5) ?_
    refine WP.skip ?_
    exact ⟨hq2, ⟨rfl, rfl, rfl, rfl, rfl, rfl, rfl, trivial⟩, (Fr.drew hfr3 _)⟩
  refine WP.seqc (fun F wr => Has F [(3, .slice (some ⟨bb, oo, none⟩) A.length ac), (9, .pointer (some ⟨B, 0, none⟩)), (17, .pointer (some ⟨b17, 0, none⟩)), (20, .pointer (some ⟨b20, 0, none⟩)), (21, .int .i64 ((off L i : Nat) : Int)), (140, .int .i64 (A.length : Nat)), (141, .int .i64 (i : Nat)), (22, .int .i64 (i : Nat)), (23, .pointer (some ⟨b23, 0, none⟩)), (177, .int .i64 (a.terms.length : Nat)), (178, .int .i64 (0 : Nat))] ∧ wr.heap[b23]? = some (.cells #[.string p.ctx, .slice none 0 0, .slice ca r.2.2.length cc, .pointer none] 43 (0, 0)) ∧ Fr (fun _ => False) wa wr) ?_ ?_
  · refine WP.region ?_
    refine RL.val rfl (ex_move (by conv => lhs; whnf)) ?_
    refine RL.val rfl (ex_move (by conv => lhs; whnf)) ?_
    refine RL.val rfl (ex_indexAddr (by conv => lhs; whnf) (by conv => lhs; whnf) Yba.sl23 Yba.sz27 rfl (by omega)) ?_
    refine RL.val rfl (ex_fieldAddr (by conv => lhs; whnf) Yba.fo27_1) ?_
    refine RL.val rfl (ex_load (by conv => lhs; whnf) Yba.sc25 (Fr.cell (Fr.drew hfr3 _) hct _root_.id)) ?_
    refine RL.val rfl (ex_len (by conv => lhs; whnf) Yba.sl25) ?_
    refine RL.val rfl (ex_move (by conv => lhs; whnf)) ?_
    refine RL.nil ?_
    exact ⟨⟨rfl, rfl, rfl, rfl, rfl, rfl, rfl, rfl, rfl, rfl, rfl, trivial⟩, h23, (Fr.drew hfr3 _)⟩
  clear h23 hfr3 hK
  rintro F wr ⟨hF, h23, hfr3⟩
  refine WP.block ?_
  refine WP.loopk (fun n F wr => ∃ j : Nat, n = a.terms.length - j ∧ j ≤ a.terms.length ∧ quietUpTo fails (off L i + j) ∧ Has F [(3, .slice (some ⟨bb, oo, none⟩) A.length ac), (9, .pointer (some ⟨B, 0, none⟩)), (17, .pointer (some ⟨b17, 0, none⟩)), (20, .pointer (some ⟨b20, 0, none⟩)), (21, .int .i64 ((off L i + j : Nat) : Int)), (140, .int .i64 (A.length : Nat)), (141, .int .i64 (i : Nat)), (22, .int .i64 (i : Nat)), (23, .pointer (some ⟨b23, 0, none⟩)), (177, .int .i64 (a.terms.length : Nat)), (178, .int .i64 (j : Nat))] ∧ wr.heap[b23]? = some (.cells #[.string p.ctx, .slice none 0 0, .slice ca r.2.2.length cc, .pointer none] 43 (0, 0)) ∧ Fr (fun _ => False) wa wr) a.terms.length ⟨0, rfl, Nat.zero_le _, hq, hF, h23, hfr3⟩ ?_
  clear hF h23 hfr3 F wr
  rintro n F wr ⟨j, rfl, hj, hqj, hF, h23, hfr3⟩ K hK
  obtain ⟨G, rfl⟩ := hF.get
  clear hF
  have hlen : p.terms.length = a.terms.length := by rw [hterms]
  refine WP.seq ?_
  have FRsz := Fr.size hfr3
  refine WP.region ?_
  refine RL.val rfl (ex_lss (by conv => lhs; whnf) (by conv => lhs; whnf)) ?_
  refine RL.nil ?_
  refine WP.seq ?_
  refine WP.cond _ (by conv => lhs; whnf) (fun hlt => ?_) (fun hlt => ?_)
  rotate_left
  · refine WP.exit ?_
    repeat (first | refine thenQ_exit ?_ | refine blockQ_hit ?_ | refine blockQ_miss rfl ?_)
    have hge : ¬ ((j : Int) < a.terms.length) := of_decide_eq_false hlt
    have hjj : j = a.terms.length := by omega
    have hoo : off L (i + 1) = off L i + j := by omega
    rw [hoo]
    exact ⟨hqj, ⟨rfl, rfl, rfl, rfl, rfl, rfl, rfl, rfl, rfl, trivial⟩, h23, hfr3⟩
  have hlt2 : (j : Int) < a.terms.length := of_decide_eq_true hlt
  clear hlt
  refine WP.skip ?_
  have hjl : j < a.terms.length := by omega
  obtain ⟨t, ht⟩ : ∃ t, a.terms[j]? = some t := ⟨a.terms[j], List.getElem?_eq_getElem hjl⟩
  obtain ⟨ep, hep, hepf, hepa, hsn, hbad⟩ := hrj j t (by rw [hterms]; exact ht) hqj
  obtain ⟨tb, to, hta, htb, htc⟩ := hacts1.terms i a ha j t ht
  obtain ⟨sg, scap, hsv, hscell⟩ := own_str hsown hsn
  have hsa : sa = some ⟨sg, 0, none⟩ := by cases hsv; rfl
  subst hsa
  have hjR : j < r.2.2.length := (List.getElem?_eq_some_iff.1 hep).1
  have hsnl : off L i + j < sn.length := (List.getElem?_eq_some_iff.1 hsn).1
  have hCr := hC r hrm
  obtain ⟨_, g2, cap2, cur2, hv2, _, hg2, _, hrow2⟩ := own_open cmdCells_len ((hrep.keep hfr3).cmds r hrm) (by omega) (by omega)
  have hrow2 := hrow2 j (t, ep) hep
  have hca : ca = some ⟨g2, 0, none⟩ := by rw [hcv] at hv2; cases hv2; rfl
  subst hca
  refine WP.seqc (fun F wr => quietUpTo fails (off L i + (j + 1)) ∧ Has F [(3, .slice (some ⟨bb, oo, none⟩) A.length ac), (9, .pointer (some ⟨B, 0, none⟩)), (17, .pointer (some ⟨b17, 0, none⟩)), (20, .pointer (some ⟨b20, 0, none⟩)), (21, .int .i64 ((off L i + (j + 1) : Nat) : Int)), (140, .int .i64 (A.length : Nat)), (141, .int .i64 (i : Nat)), (22, .int .i64 (i : Nat)), (23, .pointer (some ⟨b23, 0, none⟩)), (177, .int .i64 (a.terms.length : Nat)), (178, .int .i64 (j : Nat))] ∧ wr.heap[b23]? = some (.cells #[.string p.ctx, .slice none 0 0, .slice (some ⟨g2, 0, none⟩) r.2.2.length cc, .pointer none] 43 (0, 0)) ∧ Fr (fun _ => False) wa wr) ?_ ?_
  rotate_left
  · rintro F wr ⟨hq2, hF, h23, hfr4⟩
    obtain ⟨G, rfl⟩ := hF.get
    have FRsz := Fr.size hfr4
    refine WP.region ?_
    refine RL.val rfl (ex_add (by conv => lhs; whnf) (by conv => lhs; whnf) (wrap_i64 (by omega) (by omega))) ?_
    refine RL.val rfl (ex_move (by conv => lhs; whnf)) ?_
    refine RL.nil ?_
    exact hK (a.terms.length - (j + 1)) _ _ (by omega) ⟨j + 1, rfl, by omega, hq2, ⟨rfl, rfl, rfl, rfl, rfl, rfl, rfl, rfl, rfl, rfl, rfl, trivial⟩, h23, hfr4⟩
  refine WP.block ?_
  refine WP.seq ?_
  have LT23 := lt_of h23
  have FRsz := Fr.size hfr3
  refine WP.region ?_
  refine RL.val rfl (ex_move (by conv => lhs; whnf)) ?_
  refine RL.val rfl (ex_assign (by conv => lhs; whnf)) ?_
  refine RL.nil ?_
  refine WP.seq ?_
  refine WP.seq ?_
  have hd6 : decide ((r.2.2.length : Int) ≤ (j : Int)) = false := decide_eq_false (by omega)
  refine WP.region ?_
  refine RL.val rfl (ex_move (by conv => lhs; whnf)) ?_
  refine RL.val rfl (ex_fieldAddr (by conv => lhs; whnf) Yba.fo43_2) ?_
  refine RL.val rfl (ex_loadB (by conv => lhs; whnf) Yba.sc41 h23 (by conv => lhs; whnf)) ?_
  refine RL.val rfl (ex_len (by conv => lhs; whnf) Yba.sl41) ?_
  refine RL.val rfl (ex_geq (by conv => lhs; whnf) (by conv => lhs; whnf)) ?_
  refine RL.nil ?_
  refine WP.cond_false (congrArg Value.bool hd6) ?_
  refine WP.skip ?_
  refine WP.seqc (fun F wr => ∃ b25, Has F [(3, .slice (some ⟨bb, oo, none⟩) A.length ac), (9, .pointer (some ⟨B, 0, none⟩)), (17, .pointer (some ⟨b17, 0, none⟩)), (20, .pointer (some ⟨b20, 0, none⟩)), (21, .int .i64 ((off L i + j : Nat) : Int)), (140, .int .i64 (A.length : Nat)), (141, .int .i64 (i : Nat)), (22, .int .i64 (i : Nat)), (23, .pointer (some ⟨b23, 0, none⟩)), (177, .int .i64 (a.terms.length : Nat)), (178, .int .i64 (j : Nat)), (24, .int .i64 (j : Nat)), (25, .pointer (some ⟨b25, 0, none⟩))] ∧ wr.heap[b25]? = some (.cells (cmdCells (t, ep)).toArray 47 (0, 0)) ∧ wr.heap[b23]? = some (.cells #[.string p.ctx, .slice none 0 0, .slice (some ⟨g2, 0, none⟩) r.2.2.length cc, .pointer none] 43 (0, 0)) ∧ Fr (fun _ => False) wa wr) ?_ ?_
  · refine WP.region ?_
    refine RL.val rfl (ex_fieldAddr (by conv => lhs; whnf) Yba.fo43_2) ?_
    refine RL.val rfl (ex_loadB (by conv => lhs; whnf) Yba.sc41 h23 (by conv => lhs; whnf)) ?_
    refine RL.val rfl (ex_move (by conv => lhs; whnf)) ?_
    refine RL.val rfl (ex_ix0 (by conv => lhs; whnf) (by conv => lhs; whnf) Yba.sl41 Yba.sz47 rfl (by omega)) ?_
    refine RL.val rfl (ex_loadR (by conv => lhs; whnf) hg2 Yba.ag47 (cmdCells_len (t, ep)) hrow2) ?_
    refine RL.val rfl (ex_alloc Yba.zo47 (by first | (conv => lhs; simp only [sz_al, sz_sr, sz_dn]) | rfl)) ?_
    refine RL.unit (ex_storeW (by conv => lhs; whnf) (by conv => lhs; whnf) Yba.ag47 (an' (by first | (simp only [sz_al, sz_sr, sz_dn]; done) | rfl | omega | (simp only [sz_al, sz_sr, sz_dn]; omega))) (by rfl) (by rfl) (by rfl)) ?_
    refine RL.nil ?_
    exact ⟨_, ⟨rfl, rfl, rfl, rfl, rfl, rfl, rfl, rfl, rfl, rfl, rfl, rfl, rfl, trivial⟩, (sr_eq (an' (by first | (simp only [sz_al, sz_sr, sz_dn]; done) | rfl | omega | (simp only [sz_al, sz_sr, sz_dn]; omega)))), (sr_ne (al h23) (by (try simp only [sz_al, sz_sr, sz_dn]); omega)), (Fr.set (Fr.alloc hfr3 _) _ _ (fun hh => by (try simp only [sz_al, sz_sr, sz_dn] at hh); (try simp only [sz_al, sz_sr, sz_dn]); (first | omega | (dsimp only; omega) | exact .inl rfl | exact .inr (.inl rfl))))⟩
  clear h23 hfr3 hg2 hrow2 hd6
  rintro F wr1 ⟨b25, hF, h25, h23, hfr3⟩
  obtain ⟨G, rfl⟩ := hF.get
  clear hF
  have q9 := hfr3.keep h9 _root_.id
  have q17 := hfr3.keep h17 _root_.id
  have q20 := hfr3.keep h20 _root_.id
  have hdt : decide (t ≠ t) = false := by simp
  have hta2 := hct
  rw [hta] at hta2
  refine WP.seq ?_
  refine WP.seq ?_
  have LT9 := lt_of q9
  have LT17 := lt_of q17
  have LT20 := lt_of q20
  have LT23 := lt_of h23
  have LT25 := lt_of h25
  have FRsz := Fr.size hfr3
  refine WP.draw [] (by kernel_rfl) ?_
  refine AE.take 0 rfl (by kernel_rfl) rfl (fun w' hw => ex_fieldAddr (by conv => lhs; whnf) Yba.fo47_3) (Ext.drew (Ext.refl _) 1) ?_
  refine AE.take 1 rfl (by kernel_rfl) rfl (fun w' hw => ex_loadB (by conv => lhs; whnf) Yba.sc9 (hw.keep h25) (by conv => lhs; whnf)) (Ext.drew (Ext.refl _) 1) ?_
  refine AE.take 2 rfl (by kernel_rfl) rfl (fun w' hw => ex_move (by conv => lhs; whnf)) (Ext.drew (Ext.refl _) 1) ?_
  refine AE.take 3 rfl (by kernel_rfl) rfl (fun w' hw => ex_move (by conv => lhs; whnf)) (Ext.drew (Ext.refl _) 1) ?_
  refine AE.take 4 rfl (by kernel_rfl) rfl (fun w' hw => ex_indexAddr (by conv => lhs; whnf) (by conv => lhs; whnf) Yba.sl23 Yba.sz27 rfl (by omega)) (Ext.drew (Ext.refl _) 1) ?_
  refine AE.take 5 rfl (by kernel_rfl) rfl (fun w' hw => ex_fieldAddr (by conv => lhs; whnf) Yba.fo27_1) (Ext.drew (Ext.refl _) 1) ?_
  refine AE.take 6 rfl (by kernel_rfl) rfl (fun w' hw => ex_load (by conv => lhs; whnf) Yba.sc25 (hw.cell (Fr.cell hfr3 hta2 _root_.id))) (Ext.drew (Ext.refl _) 1) ?_
  refine AE.take 7 rfl (by kernel_rfl) rfl (fun w' hw => ex_move (by conv => lhs; whnf)) (Ext.drew (Ext.refl _) 1) ?_
  refine AE.take 8 rfl (by kernel_rfl) rfl (fun w' hw => ex_ixa (by conv => lhs; whnf) (by conv => lhs; whnf) Yba.sl25 Yba.sz9 rfl (by omega)) (Ext.drew (Ext.refl _) 1) ?_
  refine AE.take 9 rfl (by kernel_rfl) rfl (fun w' hw => ex_load (by conv => lhs; whnf) Yba.sc9 (hw.cell (Fr.cell hfr3 htc _root_.id))) (Ext.drew (Ext.refl _) 1) ?_
  refine AE.take 10 rfl (by kernel_rfl) rfl (fun w' hw => ex_neq_str (by conv => lhs; whnf) (by conv => lhs; whnf)) (Ext.drew (Ext.refl _) 1) ?_
  refine AE.take 11 rfl (by kernel_rfl) rfl (fun w' hw => ex_move (by conv => lhs; whnf)) (Ext.drew (Ext.refl _) 1) ?_
  refine AE.takeg 12 (dj := 202) rfl (by kernel_rfl) rfl rfl (congrArg Value.bool hdt) (fun w' hw => ex_fieldAddr (by conv => lhs; whnf) Yba.fo47_1) (Ext.drew (Ext.refl _) 1) ?_
  refine AE.takeg 13 (dj := 202) rfl (by kernel_rfl) rfl rfl (congrArg Value.bool hdt) (fun w' hw => ex_loadB (by conv => lhs; whnf) Yba.sc4 (hw.keep h25) (by conv => lhs; whnf)) (Ext.drew (Ext.refl _) 1) ?_
  refine AE.takeg 14 (dj := 202) rfl (by kernel_rfl) rfl rfl (congrArg Value.bool hdt) (fun w' hw => ex_not (by conv => lhs; whnf)) (Ext.drew (Ext.refl _) 1) ?_
  refine AE.take 15 rfl (by kernel_rfl) rfl (fun w' hw => ex_pick_f (congrArg Value.bool hdt) (by conv => lhs; whnf)) (Ext.drew (Ext.refl _) 1) ?_
  refine AE.nil (by kernel_rfl) ?_
  refine WP.cond_false rfl ?_
  refine WP.skip ?_
  refine WP.seq ?_
  refine WP.seq ?_
  have hd7 : decide ((sn.length : Int) ≤ ((off L i + j : Nat) : Int)) = false := decide_eq_false (by omega)
  refine WP.draw [] (by kernel_rfl) ?_
  refine AE.take 0 rfl (by kernel_rfl) rfl (fun w' hw => ex_move (by conv => lhs; whnf)) (Ext.drew (Ext.refl _) 1) ?_
  refine AE.take 1 rfl (by kernel_rfl) rfl (fun w' hw => ex_loadB (by conv => lhs; whnf) Yba.sc25 (hw.keep q17) (by conv => lhs; whnf)) (Ext.drew (Ext.refl _) 1) ?_
  refine AE.take 2 rfl (by kernel_rfl) rfl (fun w' hw => ex_len (by conv => lhs; whnf) Yba.sl25) (Ext.drew (Ext.refl _) 1) ?_
  refine AE.take 3 rfl (by kernel_rfl) rfl (fun w' hw => ex_geq (by conv => lhs; whnf) (by conv => lhs; whnf)) (Ext.drew (Ext.refl _) 1) ?_
  refine AE.take 4 rfl (by kernel_rfl) rfl (fun w' hw => ex_move (by conv => lhs; whnf)) (Ext.drew (Ext.refl _) 1) ?_
  refine AE.takeg 5 (dj := 211) rfl (by kernel_rfl) rfl rfl (congrArg Value.bool hd7) (fun w' hw => ex_loadB (by conv => lhs; whnf) Yba.sc25 (hw.keep q17) (by conv => lhs; whnf)) (Ext.drew (Ext.refl _) 1) ?_
  refine AE.takeg 6 (dj := 211) rfl (by kernel_rfl) rfl rfl (congrArg Value.bool hd7) (fun w' hw => ex_move (by conv => lhs; whnf)) (Ext.drew (Ext.refl _) 1) ?_
  refine AE.takeg 7 (dj := 211) rfl (by kernel_rfl) rfl rfl (congrArg Value.bool hd7) (fun w' hw => ex_ix1 (by conv => lhs; whnf) (by conv => lhs; whnf) Yba.sl25 Yba.sz9 rfl (by omega)) (Ext.drew (Ext.refl _) 1) ?_
  refine AE.takeg 8 (dj := 211) rfl (by kernel_rfl) rfl rfl (congrArg Value.bool hd7) (fun w' hw => ex_load (by conv => lhs; whnf) Yba.sc9 (hw.cell (Fr.cell (Fr.drew hfr3 _) hscell _root_.id))) (Ext.drew (Ext.refl _) 1) ?_
  refine AE.takeg 9 (dj := 211) rfl (by kernel_rfl) rfl rfl (congrArg Value.bool hd7) (fun w' hw => ex_move (by conv => lhs; whnf)) (Ext.drew (Ext.refl _) 1) ?_
  refine AE.takeg 10 (dj := 211) rfl (by kernel_rfl) rfl rfl (congrArg Value.bool hd7) (fun w' hw => ex_move (by conv => lhs; whnf)) (Ext.drew (Ext.refl _) 1) ?_
  refine AE.takeg 11 (dj := 211) rfl (by kernel_rfl) rfl rfl (congrArg Value.bool hd7) (fun w' hw => ex_indexAddr (by conv => lhs; whnf) (by conv => lhs; whnf) Yba.sl23 Yba.sz27 rfl (by omega)) (Ext.drew (Ext.refl _) 1) ?_
  refine AE.takeg 12 (dj := 211) rfl (by kernel_rfl) rfl rfl (congrArg Value.bool hd7) (fun w' hw => ex_fieldAddr (by conv => lhs; whnf) Yba.fo27_1) (Ext.drew (Ext.refl _) 1) ?_
  refine AE.takeg 13 (dj := 211) rfl (by kernel_rfl) rfl rfl (congrArg Value.bool hd7) (fun w' hw => ex_load (by conv => lhs; whnf) Yba.sc25 (hw.cell (Fr.cell (Fr.drew hfr3 _) hta2 _root_.id))) (Ext.drew (Ext.refl _) 1) ?_
  refine AE.takeg 14 (dj := 211) rfl (by kernel_rfl) rfl rfl (congrArg Value.bool hd7) (fun w' hw => ex_move (by conv => lhs; whnf)) (Ext.drew (Ext.refl _) 1) ?_
  refine AE.takeg 15 (dj := 211) rfl (by kernel_rfl) rfl rfl (congrArg Value.bool hd7) (fun w' hw => ex_ixa (by conv => lhs; whnf) (by conv => lhs; whnf) Yba.sl25 Yba.sz9 rfl (by omega)) (Ext.drew (Ext.refl _) 1) ?_
  refine AE.takeg 16 (dj := 211) rfl (by kernel_rfl) rfl rfl (congrArg Value.bool hd7) (fun w' hw => ex_load (by conv => lhs; whnf) Yba.sc9 (hw.cell (Fr.cell (Fr.drew hfr3 _) htc _root_.id))) (Ext.drew (Ext.refl _) 1) ?_
  refine AE.takeg 17 (dj := 211) rfl (by kernel_rfl) rfl rfl (congrArg Value.bool hd7) (fun w' hw => ex_neq_str (by conv => lhs; whnf) (by conv => lhs; whnf)) (Ext.drew (Ext.refl _) 1) ?_
  refine AE.take 18 rfl (by kernel_rfl) rfl (fun w' hw => ex_pick_f (congrArg Value.bool hd7) (by conv => lhs; whnf)) (Ext.drew (Ext.refl _) 1) ?_
  refine AE.nil (by kernel_rfl) ?_
  refine WP.cond_false (congrArg Value.bool hdt) ?_
  refine WP.skip ?_
  refine WP.seqc (fun F wr => Has F [(3, .slice (some ⟨bb, oo, none⟩) A.length ac), (9, .pointer (some ⟨B, 0, none⟩)), (17, .pointer (some ⟨b17, 0, none⟩)), (20, .pointer (some ⟨b20, 0, none⟩)), (21, .int .i64 ((off L i + j : Nat) : Int)), (140, .int .i64 (A.length : Nat)), (141, .int .i64 (i : Nat)), (22, .int .i64 (i : Nat)), (23, .pointer (some ⟨b23, 0, none⟩)), (177, .int .i64 (a.terms.length : Nat)), (178, .int .i64 (j : Nat)), (24, .int .i64 (j : Nat)), (25, .pointer (some ⟨b25, 0, none⟩)), (26, .bool (fail fails (off L i + j)))] ∧ wr.heap[b25]? = some (.cells (cmdCells (t, ep)).toArray 47 (0, 0)) ∧ wr.heap[b23]? = some (.cells #[.string p.ctx, .slice none 0 0, .slice (some ⟨g2, 0, none⟩) r.2.2.length cc, .pointer none] 43 (0, 0)) ∧ Fr (fun _ => False) wa wr) ?_ ?_
  · by_cases hlt : off L i + j < fails.length
    · obtain ⟨b, hb⟩ : ∃ b, fails[off L i + j]? = some b := ⟨_, List.getElem?_eq_getElem hlt⟩
      obtain ⟨fb, fo, rfl, _, hcell⟩ := hfails1.at_ _ b hb
      have hd : decide (((off L i + j : Nat) : Int) < (fails.length : Int)) = true := decide_eq_true (by omega)
      rw [fail_of hb]
      refine WP.region ?_
      refine RL.val rfl (ex_move (by conv => lhs; whnf)) ?_
      refine RL.val rfl (ex_loadB (by conv => lhs; whnf) Yba.sc24 q9 (by conv => lhs; whnf)) ?_
      refine RL.val rfl (ex_len (by conv => lhs; whnf) Yba.sl24) ?_
      refine RL.val rfl (ex_lss (by conv => lhs; whnf) (by conv => lhs; whnf)) ?_
      refine RL.val rfl (ex_move (by conv => lhs; whnf)) ?_
      refine RL.take (dj := 230) rfl (congrArg Value.bool hd) ?_
      refine RL.val rfl (ex_loadB (by conv => lhs; whnf) Yba.sc24 q9 (by conv => lhs; whnf)) ?_
      refine RL.take (dj := 230) rfl (congrArg Value.bool hd) ?_
      refine RL.val rfl (ex_move (by conv => lhs; whnf)) ?_
      refine RL.take (dj := 230) rfl (congrArg Value.bool hd) ?_
      refine RL.val rfl (ex_ixa (by conv => lhs; whnf) (by conv => lhs; whnf) Yba.sl24 Yba.sz4 rfl (by omega)) ?_
      refine RL.take (dj := 230) rfl (congrArg Value.bool hd) ?_
      refine RL.val rfl (ex_load (by conv => lhs; whnf) Yba.sc4 (Fr.cell (Fr.drew (Fr.drew hfr3 _) _) hcell _root_.id)) ?_
      refine RL.val rfl (ex_pick_t (congrArg Value.bool hd) (by conv => lhs; whnf)) ?_
      refine RL.val rfl (ex_assign (by conv => lhs; whnf)) ?_
      refine RL.nil ?_
      exact ⟨⟨rfl, rfl, rfl, rfl, rfl, rfl, rfl, rfl, rfl, rfl, rfl, rfl, rfl, rfl, trivial⟩, h25, h23, (Fr.drew (Fr.drew hfr3 _) _)⟩
    · have hd : decide (((off L i + j : Nat) : Int) < (fails.length : Int)) = false := decide_eq_false (by omega)
      rw [fail_past (by omega)]
      refine WP.region ?_
      refine RL.val rfl (ex_move (by conv => lhs; whnf)) ?_
      refine RL.val rfl (ex_loadB (by conv => lhs; whnf) Yba.sc24 q9 (by conv => lhs; whnf)) ?_
      refine RL.val rfl (ex_len (by conv => lhs; whnf) Yba.sl24) ?_
      refine RL.val rfl (ex_lss (by conv => lhs; whnf) (by conv => lhs; whnf)) ?_
      refine RL.val rfl (ex_move (by conv => lhs; whnf)) ?_
      refine RL.skip (dj := 230) (b := false) rfl rfl (congrArg Value.bool hd) rfl ?_
      refine RL.skip (dj := 230) (b := false) rfl rfl (congrArg Value.bool hd) rfl ?_
      refine RL.skip (dj := 230) (b := false) rfl rfl (congrArg Value.bool hd) rfl ?_
      refine RL.skip (dj := 230) (b := false) rfl rfl (congrArg Value.bool hd) rfl ?_
      refine RL.val rfl (ex_pick_f (congrArg Value.bool hd) (by conv => lhs; whnf)) ?_
      refine RL.val rfl (ex_assign (by conv => lhs; whnf)) ?_
      refine RL.nil ?_
      exact ⟨⟨rfl, rfl, rfl, rfl, rfl, rfl, rfl, rfl, rfl, rfl, rfl, rfl, rfl, rfl, trivial⟩, h25, h23, (Fr.drew (Fr.drew hfr3 _) _)⟩
  clear q9 q17 q20 h25 h23 hfr3 hd7
  rintro F wr2 ⟨hF, h25, h23, hfr3⟩
  obtain ⟨G, rfl⟩ := hF.get
  clear hF
  have q17 := hfr3.keep h17 _root_.id
  have q20 := hfr3.keep h20 _root_.id
  refine WP.seq ?_
  refine WP.seq ?_
  have LT17 := lt_of q17
  have LT20 := lt_of q20
  have LT23 := lt_of h23
  have LT25 := lt_of h25
  have FRsz := Fr.size hfr3
  refine WP.region ?_
  refine RL.val rfl (ex_move (by conv => lhs; whnf)) ?_
  refine RL.nil ?_
  refine WP.cond (fail fails (off L i + j)) (by conv => lhs; whnf) (fun hc1 => ?_) (fun hc1 => ?_)
  · obtain ⟨e1, e2, e3, e4⟩ := hbad hc1
    have hes : ep.isSome = true := by rw [hepf]; exact hc1
    obtain ⟨ad, rfl⟩ := Option.isSome_iff_exists.1 hes
    obtain ⟨g3, rfl, hg3⟩ := hepa ad rfl
    have hg3 := hfr3.keep hg3 _root_.id
    have hdi : decide (((off L i + j : Nat) : Int) ≠ ((off L i + j : Nat) : Int)) = false := by simp
    refine WP.seq ?_
    refine WP.seq ?_
    refine WP.region ?_
    refine RL.val rfl (ex_fieldAddr (by conv => lhs; whnf) Yba.fo47_5) ?_
    refine RL.val rfl (ex_loadB (by conv => lhs; whnf) Yba.sc29 h25 (by conv => lhs; whnf)) ?_
    refine RL.val rfl (ex_eql_nil (by conv => lhs; whnf) (by conv => lhs; whnf) Yba.pt29) ?_
    refine RL.val rfl (ex_move (by conv => lhs; whnf)) ?_
    refine RL.take (dj := 240) rfl rfl ?_
    refine RL.val rfl (ex_fieldAddr (by conv => lhs; whnf) Yba.fo47_5) ?_
    refine RL.take (dj := 240) rfl rfl ?_
    refine RL.val rfl (ex_loadB (by conv => lhs; whnf) Yba.sc29 h25 (by conv => lhs; whnf)) ?_
    refine RL.take (dj := 240) rfl rfl ?_
    refine RL.val rfl (ex_nilCheck (by conv => lhs; whnf)) ?_
    refine RL.take (dj := 240) rfl rfl ?_
    refine RL.val rfl (ex_fieldAddr (by conv => lhs; whnf) Yba.fo31_0) ?_
    refine RL.take (dj := 240) rfl rfl ?_
    refine RL.val rfl (ex_loadB (by conv => lhs; whnf) Yba.sc3 hg3 (by conv => lhs; whnf)) ?_
    refine RL.take (dj := 240) rfl rfl ?_
    refine RL.val rfl (ex_move (by conv => lhs; whnf)) ?_
    refine RL.take (dj := 240) rfl rfl ?_
    refine RL.val rfl (ex_neq (by conv => lhs; whnf) (by conv => lhs; whnf)) ?_
    refine RL.val rfl (ex_pick_f rfl (by conv => lhs; whnf)) ?_
    refine RL.nil ?_
    refine WP.cond_false (congrArg Value.bool hdi) ?_
    refine WP.skip ?_
    refine WP.seq ?_
    have k1 : decide ((r.2.2.length : Int) = (j : Int) + 1) = true := decide_eq_true (by omega)
    have k2 : decide ((R.length : Int) = (i : Int) + 1) = true := decide_eq_true (by omega)
    have k3 : decide ((sn.length : Int) = ((off L i + j : Nat) : Int) + 1) = true := decide_eq_true (by omega)
    refine WP.region ?_
    refine RL.val rfl (ex_fieldAddr (by conv => lhs; whnf) Yba.fo43_2) ?_
    refine RL.val rfl (ex_loadB (by conv => lhs; whnf) Yba.sc41 h23 (by conv => lhs; whnf)) ?_
    refine RL.val rfl (ex_len (by conv => lhs; whnf) Yba.sl41) ?_
    refine RL.val rfl (ex_move (by conv => lhs; whnf)) ?_
    refine RL.val rfl (ex_add (by conv => lhs; whnf) (by conv => lhs; whnf) (wrap_i64 (by omega) (by omega))) ?_
    refine RL.val rfl (ex_eql (by conv => lhs; whnf) (by conv => lhs; whnf)) ?_
    refine RL.val rfl (ex_move (by conv => lhs; whnf)) ?_
    refine RL.take (dj := 255) rfl (congrArg Value.bool k1) ?_
    refine RL.val rfl (ex_fieldAddr (by conv => lhs; whnf) Yba.fo35_3) ?_
    refine RL.take (dj := 255) rfl (congrArg Value.bool k1) ?_
    refine RL.val rfl (ex_loadB (by conv => lhs; whnf) Yba.sc32 q20 (by conv => lhs; whnf)) ?_
    refine RL.take (dj := 255) rfl (congrArg Value.bool k1) ?_
    refine RL.val rfl (ex_len (by conv => lhs; whnf) Yba.sl32) ?_
    refine RL.take (dj := 255) rfl (congrArg Value.bool k1) ?_
    refine RL.val rfl (ex_move (by conv => lhs; whnf)) ?_
    refine RL.take (dj := 255) rfl (congrArg Value.bool k1) ?_
    refine RL.val rfl (ex_add (by conv => lhs; whnf) (by conv => lhs; whnf) (wrap_i64 (by omega) (by omega))) ?_
    refine RL.take (dj := 255) rfl (congrArg Value.bool k1) ?_
    refine RL.val rfl (ex_eql (by conv => lhs; whnf) (by conv => lhs; whnf)) ?_
    refine RL.val rfl (ex_pick_t (congrArg Value.bool k1) (by conv => lhs; whnf)) ?_
    refine RL.val rfl (ex_move (by conv => lhs; whnf)) ?_
    refine RL.take (dj := 263) rfl (congrArg Value.bool k2) ?_
    refine RL.val rfl (ex_loadB (by conv => lhs; whnf) Yba.sc25 q17 (by conv => lhs; whnf)) ?_
    refine RL.take (dj := 263) rfl (congrArg Value.bool k2) ?_
    refine RL.val rfl (ex_len (by conv => lhs; whnf) Yba.sl25) ?_
    refine RL.take (dj := 263) rfl (congrArg Value.bool k2) ?_
    refine RL.val rfl (ex_move (by conv => lhs; whnf)) ?_
    refine RL.take (dj := 263) rfl (congrArg Value.bool k2) ?_
    refine RL.val rfl (ex_add (by conv => lhs; whnf) (by conv => lhs; whnf) (wrap_i64 (by omega) (by omega))) ?_
    refine RL.take (dj := 263) rfl (congrArg Value.bool k2) ?_
    refine RL.val rfl (ex_eql (by conv => lhs; whnf) (by conv => lhs; whnf)) ?_
    refine RL.val rfl (ex_pick_t (congrArg Value.bool k2) (by conv => lhs; whnf)) ?_
    refine RL.val rfl (ex_move (by conv => lhs; whnf)) ?_
    refine RL.take (dj := 270) rfl (congrArg Value.bool k3) ?_
    refine RL.val rfl (ex_loadW (by conv => lhs; whnf) q20 Yba.ag35 (by rfl)) ?_
    refine RL.take (dj := 270) rfl (congrArg Value.bool k3) ?_
    refine RL.call rfl (ex_call1 rfl (by conv => lhs; whnf) Yba.fun6) (carries (hrep.keep hfr3) (by omega) hRC) ?_
    rintro v w3 ⟨rfl, hfr5⟩
    refine RL.val rfl (ex_pick_t (congrArg Value.bool k3) (by conv => lhs; whnf)) ?_
    refine RL.val rfl (ex_assign (by conv => lhs; whnf)) ?_
    refine RL.nil ?_
    refine WP.ret ?_
    repeat (first | refine thenQ_ret ?_ | refine blockQ_ret ?_)
    exact bodyQ_tmp rfl ⟨by rw [e4]; rfl, hfr.trans (hfr3.trans hfr5 (fun _ _ h => h)) (fun _ _ h => h.elim)⟩
  · have hen : ep.isSome = false := by rw [hepf]; exact hc1
    refine WP.skip ?_
    refine WP.seq ?_
    refine WP.seq ?_
    refine WP.region ?_
    refine RL.val rfl (ex_fieldAddr (by conv => lhs; whnf) Yba.fo47_5) ?_
    refine RL.val rfl (ex_loadB (by conv => lhs; whnf) Yba.sc29 h25 (by conv => lhs; whnf)) ?_
    refine RL.val rfl (ex_neq_nil (by conv => lhs; whnf) (by conv => lhs; whnf) Yba.pt29) ?_
    refine RL.nil ?_
    refine WP.cond_false (congrArg Value.bool hen) ?_
    refine WP.skip ?_
    refine WP.region ?_
    refine RL.val rfl (ex_move (by conv => lhs; whnf)) ?_
    refine RL.val rfl (ex_add (by conv => lhs; whnf) (by conv => lhs; whnf) (wrap_i64 (by omega) (by omega))) ?_
    refine RL.val rfl (ex_assign (by conv => lhs; whnf)) ?_
    refine RL.nil ?_
    refine ⟨?_, ⟨rfl, rfl, rfl, rfl, rfl, rfl, rfl, rfl, rfl, rfl, rfl, trivial⟩, h23, hfr3⟩
    intro c hc
    rcases Nat.lt_or_ge c (off L i + j) with h | h
    · exact hqj c h
    · have : c = off L i + j := by omega
      rw [this]
      exact hc1
end Go.Proofs.Ybulknkw
