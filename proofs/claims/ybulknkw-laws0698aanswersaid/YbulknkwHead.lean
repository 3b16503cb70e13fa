/- The law's walk, whole. -/
import Derived.Test.YbulknkwTail
namespace Go.Proofs.Ybulknkw
open Go Go.Eng Go.RowKit
set_option linter.unusedSimpArgs false
set_option linter.unusedVariables false

def offA (A : List Aa) : Nat → Nat
  | 0 => 0
  | i + 1 => offA A i + ((A[i]?).map (·.terms.length)).getD 0
theorem offA_succ {A : List Aa} {i : Nat} {a : Aa} (h : A[i]? = some a) : offA A (i + 1) = offA A i + a.terms.length := by simp [offA, h]
theorem off_same {A : List Aa} {L : List Rq} (h : Same A L) : ∀ i, off L i = offA A i
  | 0 => rfl
  | i + 1 => by
    have ih := off_same h i
    rcases Nat.lt_or_ge i A.length with hlt | hge
    · have h1 : A[i]? = some A[i] := List.getElem?_eq_getElem hlt
      have hl : i < L.length := by rw [h.len]; exact hlt
      have h2 : L[i]? = some L[i] := List.getElem?_eq_getElem hl
      rw [offA_succ h1, off_succ h2, ih, (h.eq i _ _ h1 h2).2]
    · have h1 : A[i]? = none := List.getElem?_eq_none hge
      have h2 : L[i]? = none := List.getElem?_eq_none (by rw [h.len]; exact hge)
      simp [off, offA, h1, h2, ih]

set_option maxRecDepth 100000 in
set_option maxHeartbeats 2000000 in
theorem law_any {w : World} {idn kind : Int} {imm : Bool} {aa fa : Option Addr} {ac fc : Nat} {A : List Aa} {fails : List Bool} (hacts : ActsAt w w.heap.size aa A) (hfails : FailsAt w w.heap.size fa fails) :
    Calls Yba.prog 3 #[.int .u32 idn, .int .u8 kind, .bool imm, .slice aa A.length ac, .slice fa fails.length fc] w fun e w' => ∃ v, e = .returned v ∧ (v = .bool true ∧ Fr (fun k => w.heap.size ≤ k) w w') := by
  have hfr0 : Fr (fun k => w.heap.size ≤ k) w w := Fr.refl w
  refine calls_of Yba.func3 rfl rfl ?_
  refine WP.seq ?_
  have FRsz := Fr.size hfr0
  refine WP.region ?_
  refine RL.val rfl (ex_box (by conv => lhs; whnf) (by first | (conv => lhs; simp only [sz_al, sz_sr, sz_dn]) | rfl)) ?_
  refine RL.val rfl (ex_assign (by conv => lhs; whnf)) ?_
  refine RL.nil ?_
  refine WP.seq ?_
  refine WP.seq ?_
  by_cases hA : 1024 < A.length
  · have hd : decide ((1024 : Int) < (A.length : Int)) = true := decide_eq_true (by omega)
    refine WP.region ?_
    refine RL.val rfl (ex_move (by conv => lhs; whnf)) ?_
    refine RL.val rfl (ex_len (by conv => lhs; whnf) Yba.sl23) ?_
    refine RL.val rfl (ex_gtr (by conv => lhs; whnf) (by conv => lhs; whnf)) ?_
    refine RL.val rfl (ex_move (by conv => lhs; whnf)) ?_
    refine RL.skip (dj := 30) (b := true) rfl rfl (congrArg Value.bool hd) rfl ?_
    refine RL.skip (dj := 30) (b := true) rfl rfl (congrArg Value.bool hd) rfl ?_
    refine RL.skip (dj := 30) (b := true) rfl rfl (congrArg Value.bool hd) rfl ?_
    refine RL.val rfl (ex_pick_t (congrArg Value.bool hd) (by conv => lhs; whnf)) ?_
    refine RL.nil ?_
    refine WP.cond_true rfl ?_
    refine WP.seq ?_
    refine WP.region ?_
    refine RL.val rfl (ex_assign (by conv => lhs; whnf)) ?_
    refine RL.nil ?_
    refine WP.ret ?_
    repeat (first | refine thenQ_ret ?_ | refine blockQ_ret ?_)
    exact bodyQ_tmp rfl ⟨rfl, (Fr.alloc hfr0 _)⟩
  have hd : decide ((1024 : Int) < (A.length : Int)) = false := decide_eq_false (by omega)
  refine WP.region ?_
  refine RL.val rfl (ex_move (by conv => lhs; whnf)) ?_
  refine RL.val rfl (ex_len (by conv => lhs; whnf) Yba.sl23) ?_
  refine RL.val rfl (ex_gtr (by conv => lhs; whnf) (by conv => lhs; whnf)) ?_
  refine RL.val rfl (ex_move (by conv => lhs; whnf)) ?_
  refine RL.take (dj := 30) rfl (congrArg Value.bool hd) ?_
  refine RL.val rfl (ex_loadB (by conv => lhs; whnf) Yba.sc24 (an' (by first | (simp only [sz_al, sz_sr, sz_dn]; done) | rfl | omega | (simp only [sz_al, sz_sr, sz_dn]; omega))) (by conv => lhs; whnf)) ?_
  refine RL.take (dj := 30) rfl (congrArg Value.bool hd) ?_
  refine RL.val rfl (ex_len (by conv => lhs; whnf) Yba.sl24) ?_
  refine RL.take (dj := 30) rfl (congrArg Value.bool hd) ?_
  refine RL.val rfl (ex_gtr (by conv => lhs; whnf) (by conv => lhs; whnf)) ?_
  refine RL.val rfl (ex_pick_f (congrArg Value.bool hd) (by conv => lhs; whnf)) ?_
  refine RL.nil ?_
  refine WP.cond _ (by conv => lhs; whnf) (fun hc => ?_) (fun hc => ?_)
  · refine WP.seq ?_
    refine WP.region ?_
    refine RL.val rfl (ex_assign (by conv => lhs; whnf)) ?_
    refine RL.nil ?_
    refine WP.ret ?_
    repeat (first | refine thenQ_ret ?_ | refine blockQ_ret ?_)
    exact bodyQ_tmp rfl ⟨rfl, (Fr.alloc hfr0 _)⟩
  have hfl : ¬ ((4096 : Int) < (fails.length : Int)) := of_decide_eq_false hc
  refine WP.skip ?_
  refine WP.seq ?_
  refine WP.region ?_
  refine RL.val rfl (ex_assign (by conv => lhs; whnf)) ?_
  refine RL.nil ?_
  refine WP.seqc (fun F wr => (∀ a, a ∈ A → a.terms.length ≤ 1024) ∧ Has F [(0, .int .u32 idn), (1, .int .u8 kind), (2, .bool imm), (3, .slice aa A.length ac), (9, .pointer (some ⟨w.heap.size, 0, none⟩)), (11, .int .i64 ((offA A A.length : Nat) : Int))] ∧ wr.heap[w.heap.size]? = some (.cells #[.slice fa fails.length fc] 24 (0, 0)) ∧ wr.heap.size = w.heap.size + 1 ∧ Fr (fun k => w.heap.size ≤ k) w wr) ?_ ?_
  · refine WP.seqc (fun F wr => Has F [(0, .int .u32 idn), (1, .int .u8 kind), (2, .bool imm), (3, .slice aa A.length ac), (9, .pointer (some ⟨w.heap.size, 0, none⟩)), (11, .int .i64 ((0 : Nat) : Int)), (36, .int .i64 (A.length : Nat)), (37, .int .i64 (0 : Nat))] ∧ wr.heap[w.heap.size]? = some (.cells #[.slice fa fails.length fc] 24 (0, 0)) ∧ wr.heap.size = w.heap.size + 1 ∧ Fr (fun k => w.heap.size ≤ k) w wr) ?_ ?_
    · refine WP.region ?_
      refine RL.val rfl (ex_move (by conv => lhs; whnf)) ?_
      refine RL.val rfl (ex_len (by conv => lhs; whnf) Yba.sl23) ?_
      refine RL.val rfl (ex_move (by conv => lhs; whnf)) ?_
      refine RL.nil ?_
      exact ⟨⟨rfl, rfl, rfl, rfl, rfl, rfl, rfl, rfl, trivial⟩, (an' (by first | (simp only [sz_al, sz_sr, sz_dn]; done) | rfl | omega | (simp only [sz_al, sz_sr, sz_dn]; omega))), sz_al _ _, (Fr.alloc hfr0 _)⟩
    rintro F wr ⟨hF, h9, hsz, hfr⟩
    refine WP.block ?_
    refine WP.loopk (fun n F wr => ∃ i : Nat, n = A.length - i ∧ i ≤ A.length ∧ offA A i ≤ 1024 * i ∧ (∀ i' a, i' < i → A[i']? = some a → a.terms.length ≤ 1024) ∧ Has F [(0, .int .u32 idn), (1, .int .u8 kind), (2, .bool imm), (3, .slice aa A.length ac), (9, .pointer (some ⟨w.heap.size, 0, none⟩)), (11, .int .i64 ((offA A i : Nat) : Int)), (36, .int .i64 (A.length : Nat)), (37, .int .i64 (i : Nat))] ∧ wr.heap[w.heap.size]? = some (.cells #[.slice fa fails.length fc] 24 (0, 0)) ∧ wr.heap.size = w.heap.size + 1 ∧ Fr (fun k => w.heap.size ≤ k) w wr) A.length ⟨0, rfl, Nat.zero_le _, Nat.le_refl _, fun i' a h => (by omega), hF, h9, hsz, hfr⟩ ?_
    clear hF h9 hsz hfr F wr
    rintro n F wr ⟨i, rfl, hi, hoff, hall, hF, h9, hsz, hfr⟩ K hK
    obtain ⟨G, rfl⟩ := hF.get
    clear hF
    refine WP.seq ?_
    have LT9 := lt_of h9
    have FRsz := Fr.size hfr
    refine WP.region ?_
    refine RL.val rfl (ex_lss (by conv => lhs; whnf) (by conv => lhs; whnf)) ?_
    refine RL.nil ?_
    refine WP.seq ?_
    refine WP.cond _ (by conv => lhs; whnf) (fun hlt => ?_) (fun hlt => ?_)
    rotate_left
    · refine WP.exit ?_
      repeat (first | refine thenQ_exit ?_ | refine blockQ_hit ?_ | refine blockQ_miss rfl ?_)
      have hge : ¬ ((i : Int) < A.length) := of_decide_eq_false hlt
      have : i = A.length := by omega
      subst this
      refine ⟨fun a ha => ?_, ⟨rfl, rfl, rfl, rfl, rfl, rfl, trivial⟩, h9, hsz, hfr⟩
      obtain ⟨q, hq, rfl⟩ := List.getElem_of_mem ha
      exact hall q _ hq (List.getElem?_eq_getElem hq)
    have hlt' : (i : Int) < A.length := of_decide_eq_true hlt
    clear hlt
    refine WP.skip ?_
    have hil : i < A.length := by omega
    obtain ⟨a, ha⟩ : ∃ a, A[i]? = some a := ⟨A[i], List.getElem?_eq_getElem hil⟩
    obtain ⟨bb, oo, haa, hbb, hcc, hct⟩ := (hacts.keep hfr).at_ i a ha
    subst haa
    refine WP.seqc (fun F wr => a.terms.length ≤ 1024 ∧ Has F [(0, .int .u32 idn), (1, .int .u8 kind), (2, .bool imm), (3, .slice (some ⟨bb, oo, none⟩) A.length ac), (9, .pointer (some ⟨w.heap.size, 0, none⟩)), (11, .int .i64 ((offA A i + a.terms.length : Nat) : Int)), (36, .int .i64 (A.length : Nat)), (37, .int .i64 (i : Nat))] ∧ wr.heap[w.heap.size]? = some (.cells #[.slice fa fails.length fc] 24 (0, 0)) ∧ wr.heap.size = w.heap.size + 1 ∧ Fr (fun k => w.heap.size ≤ k) w wr) ?_ ?_
    · refine WP.block ?_
      refine WP.seq ?_
      refine WP.region ?_
      refine RL.val rfl (ex_move (by conv => lhs; whnf)) ?_
      refine RL.val rfl (ex_assign (by conv => lhs; whnf)) ?_
      refine RL.nil ?_
      refine WP.seq ?_
      refine WP.seq ?_
      refine WP.region ?_
      refine RL.val rfl (ex_move (by conv => lhs; whnf)) ?_
      refine RL.val rfl (ex_move (by conv => lhs; whnf)) ?_
      refine RL.val rfl (ex_indexAddr (by conv => lhs; whnf) (by conv => lhs; whnf) Yba.sl23 Yba.sz27 rfl (by omega)) ?_
      refine RL.val rfl (ex_fieldAddr (by conv => lhs; whnf) Yba.fo27_1) ?_
      refine RL.val rfl (ex_load (by conv => lhs; whnf) Yba.sc25 hct) ?_
      refine RL.val rfl (ex_len (by conv => lhs; whnf) Yba.sl25) ?_
      refine RL.val rfl (ex_gtr (by conv => lhs; whnf) (by conv => lhs; whnf)) ?_
      refine RL.nil ?_
      refine WP.cond _ (by conv => lhs; whnf) (fun hc2 => ?_) (fun hc2 => ?_)
      · refine WP.seq ?_
        refine WP.region ?_
        refine RL.val rfl (ex_assign (by conv => lhs; whnf)) ?_
        refine RL.nil ?_
        refine WP.ret ?_
        repeat (first | refine thenQ_ret ?_ | refine blockQ_ret ?_)
        exact bodyQ_tmp rfl ⟨rfl, hfr⟩
      · have hle : ¬ ((1024 : Int) < (a.terms.length : Int)) := of_decide_eq_false hc2
        refine WP.skip ?_
        refine WP.region ?_
        refine RL.val rfl (ex_move (by conv => lhs; whnf)) ?_
        refine RL.val rfl (ex_move (by conv => lhs; whnf)) ?_
        refine RL.val rfl (ex_move (by conv => lhs; whnf)) ?_
        refine RL.val rfl (ex_indexAddr (by conv => lhs; whnf) (by conv => lhs; whnf) Yba.sl23 Yba.sz27 rfl (by omega)) ?_
        refine RL.val rfl (ex_fieldAddr (by conv => lhs; whnf) Yba.fo27_1) ?_
        refine RL.val rfl (ex_load (by conv => lhs; whnf) Yba.sc25 hct) ?_
        refine RL.val rfl (ex_len (by conv => lhs; whnf) Yba.sl25) ?_
        refine RL.val rfl (ex_add (by conv => lhs; whnf) (by conv => lhs; whnf) (wrap_i64 (by omega) (by omega))) ?_
        refine RL.val rfl (ex_assign (by conv => lhs; whnf)) ?_
        refine RL.nil ?_
        exact ⟨by omega, ⟨rfl, rfl, rfl, rfl, rfl, rfl, rfl, rfl, trivial⟩, h9, hsz, hfr⟩
    · rintro F wr2 ⟨hle, hF, h9, hsz, hfr⟩
      obtain ⟨G, rfl⟩ := hF.get
      have LT9 := lt_of h9
      have FRsz := Fr.size hfr
      refine WP.region ?_
      refine RL.val rfl (ex_add (by conv => lhs; whnf) (by conv => lhs; whnf) (wrap_i64 (by omega) (by omega))) ?_
      refine RL.val rfl (ex_move (by conv => lhs; whnf)) ?_
      refine RL.nil ?_
      refine hK (A.length - (i + 1)) _ _ (by omega) ⟨i + 1, rfl, by omega, by rw [offA_succ ha]; omega, ?_, ⟨rfl, rfl, rfl, rfl, rfl, by rw [offA_succ ha]; rfl, rfl, rfl, trivial⟩, h9, hsz, hfr⟩
      intro i' a' hi' ha'
      rcases Nat.lt_or_ge i' i with h | h
      · exact hall i' a' h ha'
      · have : i' = i := by omega
        subst this
        rw [ha] at ha'
        cases ha'
        exact hle
  rintro F wr ⟨hT, hF, h9, hsz, hfr⟩
  obtain ⟨G, rfl⟩ := hF.get
  clear hF
  refine WP.seq ?_
  refine WP.seq ?_
  have LT9 := lt_of h9
  have FRsz := Fr.size hfr
  refine WP.region ?_
  refine RL.val rfl (ex_move (by conv => lhs; whnf)) ?_
  refine RL.val rfl (ex_gtr (by conv => lhs; whnf) (by conv => lhs; whnf)) ?_
  refine RL.nil ?_
  refine WP.cond _ (by conv => lhs; whnf) (fun hc2 => ?_) (fun hc2 => ?_)
  · refine WP.seq ?_
    refine WP.region ?_
    refine RL.val rfl (ex_assign (by conv => lhs; whnf)) ?_
    refine RL.nil ?_
    refine WP.ret ?_
    repeat (first | refine thenQ_ret ?_ | refine blockQ_ret ?_)
    exact bodyQ_tmp rfl ⟨rfl, hfr⟩
  have htot : ¬ ((4096 : Int) < ((offA A A.length : Nat) : Int)) := of_decide_eq_false hc2
  refine WP.skip ?_
  refine WP.seq ?_
  refine WP.region ?_
  refine RL.val rfl (ex_move (by conv => lhs; whnf)) ?_
  refine RL.val rfl (ex_rem (by conv => lhs; whnf) (by conv => lhs; whnf) (by omega)) ?_
  refine RL.val rfl (ex_convert (by conv => lhs; whnf) Yba.cv5_28 Yba.kd28 rfl) ?_
  refine RL.val rfl (ex_move (by conv => lhs; whnf)) ?_
  refine RL.val rfl (ex_move (by conv => lhs; whnf)) ?_
  refine RL.val rfl (Yba.bl31_0 (by conv => lhs; whnf) rfl) ?_
  refine RL.val rfl (ex_box (by conv => lhs; whnf) (q := w.heap.size + 1) (by omega)) ?_
  refine RL.val rfl (Yba.bl35_0_1_2_4 (by conv => lhs; whnf) rfl (by conv => lhs; whnf) rfl (by conv => lhs; whnf) rfl (by conv => lhs; whnf) rfl) ?_
  refine RL.val rfl (ex_alloc (q := w.heap.size + 2) Yba.zo35 (by simp only [sz_al, sz_sr, sz_dn]; omega)) ?_
  refine RL.unit (ex_storeW (by conv => lhs; whnf) (by conv => lhs; whnf) Yba.ag35 (an' (by first | (simp only [sz_al, sz_sr, sz_dn]; done) | rfl | omega | (simp only [sz_al, sz_sr, sz_dn]; omega))) (by rfl) (by rfl) (by rfl)) ?_
  refine RL.nil ?_
  refine WP.seqc (fun F wr => ∃ k4 ep av L, Has F [(0, .int .u32 idn), (3, .slice aa A.length ac), (9, .pointer (some ⟨w.heap.size, 0, none⟩)), (13, .pointer (some ⟨w.heap.size + 2, 0, none⟩))] ∧ wr.heap[w.heap.size]? = some (.cells #[.slice fa fails.length fc] 24 (0, 0)) ∧ wr.heap[w.heap.size + 2]? = some (.cells #[k4, .int .u32 idn, .bool imm, av, ep, .slice none 0 0] 35 (0, 0)) ∧ ReqAt wr w.heap.size av L ∧ Same A L ∧ Fr (fun k => w.heap.size ≤ k) w wr) ?_ ?_
  rotate_left
  · rintro F wr ⟨k4, ep, av, L, hF, h9, h13, hreq, hsame, hfr⟩
    have h := off_same hsame L.length
    have hl := hsame.len
    exact tail rfl hF h9 h13 hreq hsame hacts hfails hfr (by omega) hT (by rw [h, hl]; omega) (by omega)
  refine WP.seqc (fun F wr => ∃ k4 ep, (k4.oneCell' = true ∧ ep.oneCell' = true) ∧ Has F [(0, .int .u32 idn), (3, .slice aa A.length ac), (9, .pointer (some ⟨w.heap.size, 0, none⟩)), (13, .pointer (some ⟨w.heap.size + 2, 0, none⟩)), (67, .int .i64 (A.length : Nat)), (68, .int .i64 (0 : Nat))] ∧ wr.heap[w.heap.size]? = some (.cells #[.slice fa fails.length fc] 24 (0, 0)) ∧ wr.heap[w.heap.size + 2]? = some (.cells #[k4, .int .u32 idn, .bool imm, .slice none 0 0, ep, .slice none 0 0] 35 (0, 0)) ∧ Fr (fun k => w.heap.size ≤ k) w wr) ?_ ?_
  · refine WP.region ?_
    refine RL.val rfl (ex_move (by conv => lhs; whnf)) ?_
    refine RL.val rfl (ex_len (by conv => lhs; whnf) Yba.sl23) ?_
    refine RL.val rfl (ex_move (by conv => lhs; whnf)) ?_
    refine RL.nil ?_
    exact ⟨_, _, ⟨rfl, rfl⟩, ⟨rfl, rfl, rfl, rfl, rfl, rfl, trivial⟩, (sr_ne (al (al h9)) (by (try simp only [sz_al, sz_sr, sz_dn]); omega)), (sr_eq (an' (by first | (simp only [sz_al, sz_sr, sz_dn]; done) | rfl | omega | (simp only [sz_al, sz_sr, sz_dn]; omega)))), (Fr.set (Fr.alloc (Fr.alloc hfr _) _) _ _ (fun hh => by (try simp only [sz_al, sz_sr, sz_dn] at hh); (try simp only [sz_al, sz_sr, sz_dn]); (first | omega | (dsimp only; omega) | exact .inl rfl | exact .inr (.inl rfl))))⟩
  clear h9 hsz hfr
  rintro F wr ⟨k4, ep, hk4, hF, h9, h13, hfr⟩
  refine WP.block ?_
  refine WP.loopk (fun n F wr => ∃ (i : Nat) (av : Value) (L : List Rq), n = A.length - i ∧ i ≤ A.length ∧ L.length = i ∧ (∀ (i' : Nat) (a : Aa) (p : Rq), A[i']? = some a → L[i']? = some p → p.ctx = a.ctx ∧ p.terms = a.terms) ∧ Has F [(0, .int .u32 idn), (3, .slice aa A.length ac), (9, .pointer (some ⟨w.heap.size, 0, none⟩)), (13, .pointer (some ⟨w.heap.size + 2, 0, none⟩)), (67, .int .i64 (A.length : Nat)), (68, .int .i64 (i : Nat))] ∧ wr.heap[w.heap.size]? = some (.cells #[.slice fa fails.length fc] 24 (0, 0)) ∧ wr.heap[w.heap.size + 2]? = some (.cells #[k4, .int .u32 idn, .bool imm, av, ep, .slice none 0 0] 35 (0, 0)) ∧ ReqAt wr w.heap.size av L ∧ Fr (fun k => w.heap.size ≤ k) w wr) A.length
    ⟨0, _, [], rfl, Nat.zero_le _, rfl, fun i' a p _ hp => (by simp at hp), hF, h9, h13, ⟨World.ownsRow_nil _ _ _ _, fun p hp => (by cases hp), fun p hp => (by cases hp)⟩, hfr⟩ ?_
  clear hF h9 h13 hfr F wr
  rintro n F wi ⟨i, av, L, rfl, hi, hLl, hsm, hF, h9, h13, hreq, hfr⟩ K hK
  obtain ⟨G, rfl⟩ := hF.get
  clear hF
  refine WP.seq ?_
  have FRsz := Fr.size hfr
  refine WP.region ?_
  refine RL.val rfl (ex_lss (by conv => lhs; whnf) (by conv => lhs; whnf)) ?_
  refine RL.nil ?_
  refine WP.seq ?_
  refine WP.cond _ (by conv => lhs; whnf) (fun hlt => ?_) (fun hlt => ?_)
  rotate_left
  · refine WP.exit ?_
    repeat (first | refine thenQ_exit ?_ | refine blockQ_hit ?_ | refine blockQ_miss rfl ?_)
    have hge : ¬ ((i : Int) < A.length) := of_decide_eq_false hlt
    have : i = A.length := by omega
    exact ⟨k4, ep, av, L, ⟨rfl, rfl, rfl, rfl, trivial⟩, h9, h13, hreq, ⟨by omega, hsm⟩, hfr⟩
  have hlt' : (i : Int) < A.length := of_decide_eq_true hlt
  clear hlt
  refine WP.skip ?_
  have hil : i < A.length := by omega
  obtain ⟨a, ha⟩ : ∃ a, A[i]? = some a := ⟨A[i], List.getElem?_eq_getElem hil⟩
  have haT := hT a (List.mem_of_getElem? ha)
  have hacts1 := hacts.keep hfr
  obtain ⟨bb, oo, haa, hbb, hcc, hct⟩ := hacts1.at_ i a ha
  subst haa
  have hwi := lt_of h13
  refine WP.seqc (fun F wr => ∃ (av : Value) (L : List Rq), L.length = i + 1 ∧ (∀ (i' : Nat) (a : Aa) (p : Rq), A[i']? = some a → L[i']? = some p → p.ctx = a.ctx ∧ p.terms = a.terms) ∧ Has F [(0, .int .u32 idn), (3, .slice (some ⟨bb, oo, none⟩) A.length ac), (9, .pointer (some ⟨w.heap.size, 0, none⟩)), (13, .pointer (some ⟨w.heap.size + 2, 0, none⟩)), (67, .int .i64 (A.length : Nat)), (68, .int .i64 (i : Nat))] ∧ wr.heap[w.heap.size]? = some (.cells #[.slice fa fails.length fc] 24 (0, 0)) ∧ wr.heap[w.heap.size + 2]? = some (.cells #[k4, .int .u32 idn, .bool imm, av, ep, .slice none 0 0] 35 (0, 0)) ∧ ReqAt wr w.heap.size av L ∧ Fr (fun k => w.heap.size ≤ k) w wr) ?_ ?_
  rotate_left
  · rintro F wr ⟨av, L, hl, hs, hF, h9, h13, hreq, hfr⟩
    obtain ⟨G, rfl⟩ := hF.get
    have FRsz := Fr.size hfr
    refine WP.region ?_
    refine RL.val rfl (ex_add (by conv => lhs; whnf) (by conv => lhs; whnf) (wrap_i64 (by omega) (by omega))) ?_
    refine RL.val rfl (ex_move (by conv => lhs; whnf)) ?_
    refine RL.nil ?_
    exact hK (A.length - (i + 1)) _ _ (by omega) ⟨i + 1, av, L, rfl, by omega, hl, hs, ⟨rfl, rfl, rfl, rfl, rfl, rfl, trivial⟩, h9, h13, hreq, hfr⟩
  clear hK
  have hfri : Fr (fun _ => False) wi wi := Fr.refl wi
  refine WP.block ?_
  refine WP.seq ?_
  have FRsz := Fr.size hfri
  refine WP.region ?_
  refine RL.val rfl (ex_move (by conv => lhs; whnf)) ?_
  refine RL.val rfl (ex_assign (by conv => lhs; whnf)) ?_
  refine RL.nil ?_
  refine WP.seq ?_
  refine WP.region ?_
  refine RL.val rfl (ex_move (by conv => lhs; whnf)) ?_
  refine RL.val rfl (ex_move (by conv => lhs; whnf)) ?_
  refine RL.val rfl (ex_indexAddr (by conv => lhs; whnf) (by conv => lhs; whnf) Yba.sl23 Yba.sz27 rfl (by omega)) ?_
  refine RL.val rfl (ex_fieldAddr (by conv => lhs; whnf) Yba.fo27_0) ?_
  refine RL.val rfl (ex_load (by conv => lhs; whnf) Yba.sc9 hcc) ?_
  refine RL.val rfl (Yba.bl40_0 (by conv => lhs; whnf) rfl) ?_
  refine RL.val rfl (ex_buildSlice1 (by conv => lhs; whnf) Yba.sl36 Yba.sz40 Yba.zo40 rfl rfl rfl (by first | (conv => lhs; simp only [sz_al, sz_sr, sz_dn]) | rfl)) ?_
  refine RL.val rfl (Yba.bl31_0 (by conv => lhs; whnf) rfl) ?_
  refine RL.val rfl (ex_box (by conv => lhs; whnf) (by first | (conv => lhs; simp only [sz_al, sz_sr, sz_dn]) | rfl)) ?_
  refine RL.val rfl (Yba.bl43_0_1_3 (by conv => lhs; whnf) rfl (by conv => lhs; whnf) rfl (by conv => lhs; whnf) rfl) ?_
  refine RL.val rfl (ex_alloc Yba.zo43 (by first | (conv => lhs; simp only [sz_al, sz_sr, sz_dn]) | rfl)) ?_
  refine RL.unit (ex_storeW (by conv => lhs; whnf) (by conv => lhs; whnf) Yba.ag43 (an' (by first | (simp only [sz_al, sz_sr, sz_dn]; done) | rfl | omega | (simp only [sz_al, sz_sr, sz_dn]; omega))) (by rfl) (by rfl) (by rfl)) ?_
  refine RL.nil ?_
  refine WP.seqc (fun F wr => ∃ cv : Value, Has F [(0, .int .u32 idn), (3, .slice (some ⟨bb, oo, none⟩) A.length ac), (9, .pointer (some ⟨w.heap.size, 0, none⟩)), (13, .pointer (some ⟨w.heap.size + 2, 0, none⟩)), (67, .int .i64 (A.length : Nat)), (68, .int .i64 (i : Nat)), (14, .int .i64 (i : Nat)), (15, .pointer (some ⟨wi.heap.size + 2, 0, none⟩))] ∧ wr.heap[wi.heap.size + 2]? = some (.cells #[.string a.ctx, .slice (some ⟨wi.heap.size, 0, none⟩) 1 1, cv, .pointer (some ⟨wi.heap.size + 1, 0, none⟩)] 43 (0, 0)) ∧ wr.ownsRow wi.heap.size 47 10 cv a.terms.length ((a.terms.take a.terms.length).flatMap reqCells) ∧ Fr (fun _ => False) wi wr) ?_ ?_
  rotate_left
  · rintro F wr ⟨cv, hF, h15, hown, hfr2⟩
    obtain ⟨G, rfl⟩ := hF.get
    clear hF
    obtain ⟨cva, cvc, rfl, _⟩ := own_value hown
    obtain ⟨ava, avc, rfl, _⟩ := own_value hreq.own
    have q9 := hfr2.keep h9 id
    have q13 := hfr2.keep h13 id
    have hreq2 := hreq.pure hfr2
    have hrow := hreq2.own
    have hfrw : Fr (fun k => w.heap.size ≤ k) w wr := hfr.trans hfr2 (fun _ _ h => h.elim)
    rw [List.take_length] at hown
    have LT9 := lt_of q9
    have LT13 := lt_of q13
    have LT15 := lt_of h15
    have FRsz := Fr.size hfrw
    refine WP.region ?_
    refine RL.val rfl (ex_fieldAddr (by conv => lhs; whnf) Yba.fo35_3) ?_
    refine RL.val rfl (ex_loadB (by conv => lhs; whnf) Yba.sc32 q13 (by conv => lhs; whnf)) ?_
    refine RL.val rfl (ex_loadW (by conv => lhs; whnf) h15 Yba.ag43 (by rfl)) ?_
    refine RL.val rfl (ex_buildSlice1 (by conv => lhs; whnf) Yba.sl32 Yba.sz43 Yba.zo43 rfl rfl rfl (by first | (conv => lhs; simp only [sz_al, sz_sr, sz_dn]) | rfl)) ?_
    refine RL.append1 w.heap.size rfl Yba.sl32 Yba.in43 rfl rfl rfl (by conv => lhs; whnf) (by conv => lhs; whnf) (hrow.alloc _) (an' (by first | (simp only [sz_al, sz_sr, sz_dn]; done) | rfl | omega | (simp only [sz_al, sz_sr, sz_dn]; omega))) (by rfl) (by rfl) (by omega) (by simp only [sz_al, sz_sr, sz_dn]; omega) ?_
    intro av2 w3 hown3 hgr hav2
    obtain ⟨ag, acc, rfl⟩ := hav2
    have hrlt : ∀ kk, (Value.slice ava L.length avc).ownBlock = some kk → kk < w.heap.size → w.heap.size ≤ kk := fun kk hkk hlt => (hrow.lt kk hkk).1
    refine RL.val rfl (ex_fieldAddr (by conv => lhs; whnf) Yba.fo35_3) ?_
    refine RL.unit (ex_store (by conv => lhs; whnf) (by conv => lhs; whnf) Yba.sc32 rfl (gka hgr hrow q13 rfl) rfl) ?_
    refine RL.nil ?_
    have q13w : w3.heap[w.heap.size + 2]? = some (.cells #[k4, .int .u32 idn, .bool imm, .slice ava L.length avc, ep, .slice none 0 0] 35 (0, 0)) := gka hgr hrow q13 rfl
    have hcmd : ∀ p, p ∈ L → w3.ownsRow w.heap.size 47 10 p.cv p.terms.length (p.terms.flatMap reqCells) := fun p hp => own_gka (hreq2.cmds p hp) hgr hrow rfl
    have hlast : w3.ownsRow wi.heap.size 47 10 (.slice cva a.terms.length cvc) a.terms.length (a.terms.flatMap reqCells) := own_gka hown hgr hrow rfl
    refine ⟨.slice (some ⟨ag, 0, none⟩) (L.length + 1) acc, L ++ [⟨a.ctx, .slice (some ⟨wi.heap.size, 0, none⟩) 1 1, .slice cva a.terms.length cvc, .pointer (some ⟨wi.heap.size + 1, 0, none⟩), a.terms⟩], by simp [hLl], ?_, ⟨rfl, rfl, rfl, rfl, rfl, rfl, trivial⟩, (sr_ne (gka hgr hrow q9 rfl) (by first | exact ne_of_type q9 q13 rfl | omega)), (sr_eq (gka hgr hrow q13 rfl)), ⟨?_, ?_, ?_⟩, (Fr.set (Fr.growna hfrw hgr hrlt) _ _ (fun hh => by (try simp only [sz_al, sz_sr, sz_dn] at hh); (try simp only [sz_al, sz_sr, sz_dn]); (first | omega | (dsimp only; omega) | exact .inl rfl | exact .inr (.inl rfl))))⟩
    · intro i' a' p ha' hp
      rcases Nat.lt_or_ge i' L.length with hlt | hge
      · rw [List.getElem?_append_left hlt] at hp
        exact hsm i' a' p ha' hp
      · rw [List.getElem?_append_right hge] at hp
        have h0 : i' - L.length = 0 := by
          rcases Nat.eq_zero_or_pos (i' - L.length) with h | h
          · exact h
          · rw [List.getElem?_eq_none (by simp; omega)] at hp; cases hp
        rw [h0] at hp
        simp only [List.getElem?_cons_zero, Option.some.injEq] at hp
        subst hp
        have : i' = i := by omega
        subst this
        rw [ha] at ha'
        cases ha'
        exact ⟨rfl, rfl⟩
    · have e1 : (L ++ [(⟨a.ctx, .slice (some ⟨wi.heap.size, 0, none⟩) 1 1, .slice cva a.terms.length cvc, .pointer (some ⟨wi.heap.size + 1, 0, none⟩), a.terms⟩ : Rq)]).flatMap rqCells = L.flatMap rqCells ++ (Value.agg #[.string a.ctx, .slice (some ⟨wi.heap.size, 0, none⟩) 1 1, .slice cva a.terms.length cvc, .pointer (some ⟨wi.heap.size + 1, 0, none⟩)]).cells.toList := by
        simp [rqCells, Value.cells]
      rw [e1, List.length_append]
      exact own_sr hown3 (own_ne hown3 q13w rfl)
    · intro q hq
      rcases List.mem_append.1 hq with hq | hq
      · exact own_sr (hcmd q hq) (own_ne (hcmd q hq) q13w rfl)
      · rw [List.mem_singleton] at hq
        subst hq
        exact own_base (own_sr hlast (own_ne hlast q13w rfl)) (by omega)
    · intro q hq
      rcases List.mem_append.1 hq with hq | hq
      · exact hreq2.one q hq
      · rw [List.mem_singleton] at hq
        subst hq
        exact ⟨rfl, rfl⟩
  refine WP.seqc (fun F wr => Has F [(0, .int .u32 idn), (3, .slice (some ⟨bb, oo, none⟩) A.length ac), (9, .pointer (some ⟨w.heap.size, 0, none⟩)), (13, .pointer (some ⟨w.heap.size + 2, 0, none⟩)), (67, .int .i64 (A.length : Nat)), (68, .int .i64 (i : Nat)), (14, .int .i64 (i : Nat)), (15, .pointer (some ⟨wi.heap.size + 2, 0, none⟩)), (86, .int .i64 (a.terms.length : Nat)), (87, .int .i64 (0 : Nat))] ∧ wr.heap[wi.heap.size + 2]? = some (.cells #[.string a.ctx, .slice (some ⟨wi.heap.size, 0, none⟩) 1 1, .slice none 0 0, .pointer (some ⟨wi.heap.size + 1, 0, none⟩)] 43 (0, 0)) ∧ Fr (fun _ => False) wi wr) ?_ ?_
  · refine WP.region ?_
    refine RL.val rfl (ex_move (by conv => lhs; whnf)) ?_
    refine RL.val rfl (ex_move (by conv => lhs; whnf)) ?_
    refine RL.val rfl (ex_indexAddr (by conv => lhs; whnf) (by conv => lhs; whnf) Yba.sl23 Yba.sz27 rfl (by omega)) ?_
    refine RL.val rfl (ex_fieldAddr (by conv => lhs; whnf) Yba.fo27_1) ?_
    refine RL.val rfl (ex_load (by conv => lhs; whnf) Yba.sc25 (Fr.cell (Fr.set (Fr.alloc (Fr.alloc (Fr.alloc hfri _) _) _) _ _ (fun hh => by (try simp only [sz_al, sz_sr, sz_dn] at hh); (try simp only [sz_al, sz_sr, sz_dn]); (first | omega | (dsimp only; omega) | exact .inl rfl | exact .inr (.inl rfl)))) hct id)) ?_
    refine RL.val rfl (ex_len (by conv => lhs; whnf) Yba.sl25) ?_
    refine RL.val rfl (ex_move (by conv => lhs; whnf)) ?_
    refine RL.nil ?_
    exact ⟨⟨rfl, rfl, rfl, rfl, rfl, rfl, rfl, rfl, rfl, rfl, trivial⟩, (sr_eq (an' (by first | (simp only [sz_al, sz_sr, sz_dn]; done) | rfl | omega | (simp only [sz_al, sz_sr, sz_dn]; omega)))), (Fr.set (Fr.alloc (Fr.alloc (Fr.alloc hfri _) _) _) _ _ (fun hh => by (try simp only [sz_al, sz_sr, sz_dn] at hh); (try simp only [sz_al, sz_sr, sz_dn]); (first | omega | (dsimp only; omega) | exact .inl rfl | exact .inr (.inl rfl))))⟩
  rintro F wr ⟨hF, h15, hfr2⟩
  refine WP.block ?_
  refine WP.loopk (fun n F wr => ∃ (j : Nat) (cv : Value), n = a.terms.length - j ∧ j ≤ a.terms.length ∧ Has F [(0, .int .u32 idn), (3, .slice (some ⟨bb, oo, none⟩) A.length ac), (9, .pointer (some ⟨w.heap.size, 0, none⟩)), (13, .pointer (some ⟨w.heap.size + 2, 0, none⟩)), (67, .int .i64 (A.length : Nat)), (68, .int .i64 (i : Nat)), (14, .int .i64 (i : Nat)), (15, .pointer (some ⟨wi.heap.size + 2, 0, none⟩)), (86, .int .i64 (a.terms.length : Nat)), (87, .int .i64 (j : Nat))] ∧ wr.heap[wi.heap.size + 2]? = some (.cells #[.string a.ctx, .slice (some ⟨wi.heap.size, 0, none⟩) 1 1, cv, .pointer (some ⟨wi.heap.size + 1, 0, none⟩)] 43 (0, 0)) ∧ wr.ownsRow wi.heap.size 47 10 cv j ((a.terms.take j).flatMap reqCells) ∧ Fr (fun _ => False) wi wr) a.terms.length ⟨0, _, rfl, Nat.zero_le _, hF, h15, World.ownsRow_nil _ _ _ _, hfr2⟩ ?_
  clear hF h15 hfr2 F wr
  rintro n F wr ⟨j, cv, rfl, hj, hF, h15, hown, hfr2⟩ K hK
  obtain ⟨G, rfl⟩ := hF.get
  clear hF
  refine WP.seq ?_
  have FRsz := Fr.size hfr2
  refine WP.region ?_
  refine RL.val rfl (ex_lss (by conv => lhs; whnf) (by conv => lhs; whnf)) ?_
  refine RL.nil ?_
  refine WP.seq ?_
  refine WP.cond _ (by conv => lhs; whnf) (fun hlt => ?_) (fun hlt => ?_)
  rotate_left
  · refine WP.exit ?_
    repeat (first | refine thenQ_exit ?_ | refine blockQ_hit ?_ | refine blockQ_miss rfl ?_)
    have hge : ¬ ((j : Int) < a.terms.length) := of_decide_eq_false hlt
    have : j = a.terms.length := by omega
    subst this
    exact ⟨cv, ⟨rfl, rfl, rfl, rfl, rfl, rfl, rfl, rfl, trivial⟩, h15, hown, hfr2⟩
  have hlt2 : (j : Int) < a.terms.length := of_decide_eq_true hlt
  clear hlt
  refine WP.skip ?_
  have hjl : j < a.terms.length := by omega
  obtain ⟨t, ht⟩ : ∃ t, a.terms[j]? = some t := ⟨a.terms[j], List.getElem?_eq_getElem hjl⟩
  obtain ⟨tb, to, hta, htb, htc⟩ := hacts1.terms i a ha j t ht
  have hta2 := hct
  rw [hta] at hta2
  refine WP.seqc (fun F wr => ∃ (cv : Value), Has F [(0, .int .u32 idn), (3, .slice (some ⟨bb, oo, none⟩) A.length ac), (9, .pointer (some ⟨w.heap.size, 0, none⟩)), (13, .pointer (some ⟨w.heap.size + 2, 0, none⟩)), (67, .int .i64 (A.length : Nat)), (68, .int .i64 (i : Nat)), (14, .int .i64 (i : Nat)), (15, .pointer (some ⟨wi.heap.size + 2, 0, none⟩)), (86, .int .i64 (a.terms.length : Nat)), (87, .int .i64 (j : Nat))] ∧ wr.heap[wi.heap.size + 2]? = some (.cells #[.string a.ctx, .slice (some ⟨wi.heap.size, 0, none⟩) 1 1, cv, .pointer (some ⟨wi.heap.size + 1, 0, none⟩)] 43 (0, 0)) ∧ wr.ownsRow wi.heap.size 47 10 cv (j + 1) ((a.terms.take (j + 1)).flatMap reqCells) ∧ Fr (fun _ => False) wi wr) ?_ ?_
  rotate_left
  · rintro F wr ⟨cv, hF, h15, hown, hfr2⟩
    obtain ⟨G, rfl⟩ := hF.get
    have FRsz := Fr.size hfr2
    refine WP.region ?_
    refine RL.val rfl (ex_add (by conv => lhs; whnf) (by conv => lhs; whnf) (wrap_i64 (by omega) (by omega))) ?_
    refine RL.val rfl (ex_move (by conv => lhs; whnf)) ?_
    refine RL.nil ?_
    exact hK (a.terms.length - (j + 1)) _ _ (by omega) ⟨j + 1, cv, rfl, by omega, ⟨rfl, rfl, rfl, rfl, rfl, rfl, rfl, rfl, rfl, rfl, trivial⟩, h15, hown, hfr2⟩
  refine WP.block ?_
  refine WP.seq ?_
  have LT15 := lt_of h15
  have FRsz := Fr.size hfr2
  refine WP.region ?_
  refine RL.val rfl (ex_move (by conv => lhs; whnf)) ?_
  refine RL.val rfl (ex_assign (by conv => lhs; whnf)) ?_
  refine RL.nil ?_
  obtain ⟨cva, cvc, rfl, _⟩ := own_value hown
  refine WP.draw [12, 13, 14] (by kernel_rfl) ?_
  refine AE.take 0 rfl (by kernel_rfl) rfl (fun w' hw => ex_fieldAddr (by conv => lhs; whnf) Yba.fo43_2) (Ext.drew (Ext.refl _) 1) ?_
  refine AE.take 1 rfl (by kernel_rfl) rfl (fun w' hw => ex_loadB (by conv => lhs; whnf) Yba.sc41 (hw.keep h15) (by conv => lhs; whnf)) (Ext.drew (Ext.refl _) 1) ?_
  refine AE.take 2 rfl (by kernel_rfl) rfl (fun w' hw => ex_move (by conv => lhs; whnf)) (Ext.drew (Ext.refl _) 1) ?_
  refine AE.take 3 rfl (by kernel_rfl) rfl (fun w' hw => ex_move (by conv => lhs; whnf)) (Ext.drew (Ext.refl _) 1) ?_
  refine AE.take 4 rfl (by kernel_rfl) rfl (fun w' hw => ex_indexAddr (by conv => lhs; whnf) (by conv => lhs; whnf) Yba.sl23 Yba.sz27 rfl (by omega)) (Ext.drew (Ext.refl _) 1) ?_
  refine AE.take 5 rfl (by kernel_rfl) rfl (fun w' hw => ex_fieldAddr (by conv => lhs; whnf) Yba.fo27_1) (Ext.drew (Ext.refl _) 1) ?_
  refine AE.take 6 rfl (by kernel_rfl) rfl (fun w' hw => ex_load (by conv => lhs; whnf) Yba.sc25 (hw.cell (Fr.cell hfr2 hta2 id))) (Ext.drew (Ext.refl _) 1) ?_
  refine AE.take 7 rfl (by kernel_rfl) rfl (fun w' hw => ex_move (by conv => lhs; whnf)) (Ext.drew (Ext.refl _) 1) ?_
  refine AE.take 8 rfl (by kernel_rfl) rfl (fun w' hw => ex_ixa (by conv => lhs; whnf) (by conv => lhs; whnf) Yba.sl25 Yba.sz9 rfl (by omega)) (Ext.drew (Ext.refl _) 1) ?_
  refine AE.take 9 rfl (by kernel_rfl) rfl (fun w' hw => ex_load (by conv => lhs; whnf) Yba.sc9 (hw.cell (Fr.cell hfr2 htc id))) (Ext.drew (Ext.refl _) 1) ?_
  refine AE.take 10 rfl (by kernel_rfl) rfl (fun w' hw => Yba.bl47_3 (by conv => lhs; whnf) rfl) (Ext.drew (Ext.refl _) 1) ?_
  refine AE.val 11 rfl (by kernel_rfl) rfl (ex_buildSlice1 (by conv => lhs; whnf) Yba.sl41 Yba.sz47 Yba.zo47 rfl rfl rfl (by first | (conv => lhs; simp only [sz_al, sz_sr, sz_dn]) | rfl)) (fun _ => (Ext.alloc (Ext.drew (Ext.refl _) 1) _)) ?_
  refine AE.append1 12 wi.heap.size rfl (by kernel_rfl) rfl Yba.sl41 Yba.in47 rfl rfl rfl (by conv => lhs; whnf) (by conv => lhs; whnf) (World.ownsRow.alloc (w := wr.drewN 1) hown _) (an' (by first | (simp only [sz_al, sz_sr, sz_dn]; done) | rfl | omega | (simp only [sz_al, sz_sr, sz_dn]; omega))) (by rfl) (by rfl) (by omega) (by simp only [sz_al, sz_sr, sz_dn]; omega) ?_
  intro cv2 w3 hown2 hgr hcv2
  refine ⟨fun h => absurd h (by decide), ?_⟩
  obtain ⟨cg, cc, rfl⟩ := hcv2
  have hrlt : ∀ kk, (Value.slice cva j cvc).ownBlock = some kk → kk < wi.heap.size → False := fun kk hkk hlt => by
    have := (hown.lt kk hkk).1
    omega
  refine AE.val 13 rfl (by kernel_rfl) rfl (ex_fieldAddr (by conv => lhs; whnf) Yba.fo43_2) (fun h => absurd h (by decide)) ?_
  refine AE.unit 14 rfl (by kernel_rfl) (ex_store (by conv => lhs; whnf) (by conv => lhs; whnf) Yba.sc41 rfl (gka hgr hown h15 rfl) rfl) (fun h => absurd h (by decide)) ?_
  refine AE.nil (by kernel_rfl) ?_
  have h15w : w3.heap[wi.heap.size + 2]? = some (.cells #[.string a.ctx, .slice (some ⟨wi.heap.size, 0, none⟩) 1 1, .slice cva j cvc, .pointer (some ⟨wi.heap.size + 1, 0, none⟩)] 43 (0, 0)) := gka hgr hown h15 rfl
  refine ⟨.slice (some ⟨cg, 0, none⟩) (j + 1) cc, ⟨rfl, rfl, rfl, rfl, rfl, rfl, rfl, rfl, rfl, rfl, trivial⟩, (sr_eq (gka hgr hown h15 rfl)), ?_, (Fr.set (Fr.growna (Fr.drew hfr2 _) hgr hrlt) _ _ (fun hh => by (try simp only [sz_al, sz_sr, sz_dn] at hh); (try simp only [sz_al, sz_sr, sz_dn]); (first | omega | (dsimp only; omega) | exact .inl rfl | exact .inr (.inl rfl))))⟩
  have e1 : (a.terms.take (j + 1)).flatMap reqCells = (a.terms.take j).flatMap reqCells ++ reqCells t := by rw [take_snoc ht, List.flatMap_append]; simp
  rw [e1]
  exact own_sr hown2 (own_ne hown2 h15w rfl)
end Go.Proofs.Ybulknkw
