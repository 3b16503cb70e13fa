/- The law's own model. -/
import Derived.Test.YbulknocFmtMoA
namespace Go.Proofs.YbulknocFmt
open Go Go.Eng Go.RowKit
set_option linter.unusedSimpArgs false
set_option linter.unusedVariables false

theorem ints_szv (l : List Nat) : (ints l).map (fun z => Value.int .i64 z) = szv l := by simp [ints, szv]
theorem intsAt_own {w : World} {B n : Nat} {v : Value} {l : List Nat} (h : w.ownsRow B 3 1 v n (szv l)) (hn : n = l.length) : IntsAt w v (ints l) := by
  subst hn
  by_cases hl : l.length = 0
  · have : l = [] := List.length_eq_zero_iff.1 hl
    subst this
    obtain ⟨a, cap, rfl, _⟩ := own_value h
    exact ⟨.inl ⟨rfl, a, cap, rfl⟩⟩
  · obtain ⟨g, cap, cur, rfl, _, hg, _, _, hc⟩ := own_open1 h (by omega)
    refine ⟨.inr ⟨g, 0, cap, by simp [ints], fun j z hz => ?_⟩⟩
    rw [Nat.zero_add]
    exact cellOf hg (hc j _ (by rw [← ints_szv, List.getElem?_map, hz]; rfl))
theorem intsAt_own2 {w : World} {B n : Nat} {v : Value} {l : List Int} (h : w.ownsRow B 2 1 v n (i64s l)) (hn : n = l.length) : IntsAt w v l := by
  subst hn
  by_cases hl : l.length = 0
  · have : l = [] := List.length_eq_zero_iff.1 hl
    subst this
    obtain ⟨a, cap, rfl, _⟩ := own_value h
    exact ⟨.inl ⟨rfl, a, cap, rfl⟩⟩
  · obtain ⟨g, cap, cur, rfl, _, hg, _, _, hc⟩ := own_open1 h (by omega)
    refine ⟨.inr ⟨g, 0, cap, rfl, fun j z hz => ?_⟩⟩
    rw [Nat.zero_add]
    exact cellOf hg (hc j _ (by simp [i64s, hz]))
theorem intsAt_rows {w : World} {B : Nat} {rv : Value} {l : List Nat} (h : RowsV w B rv (some l)) : IntsAt w rv (ints l) := by
  rcases h.or with ⟨h, _⟩ | ⟨l', br, o, c, cap, h1, rfl, _, hc, hv⟩
  · cases h
  · cases h1
    refine ⟨.inr ⟨br, o, cap, by simp [ints], fun j z hz => ?_⟩⟩
    rw [ints, List.getElem?_map] at hz
    cases hr : l[j]? with
    | none => rw [hr] at hz; cases hz
    | some r =>
      rw [hr] at hz
      simp only [Option.map_some, Option.some.injEq] at hz
      subst hz
      exact cellOf hc (hv j r hr)

set_option maxRecDepth 100000 in
set_option maxHeartbeats 4000000 in
theorem model {w : World} {T : List Tab} {S : List Pc} {pr : List (Pc × Value)} {sv tv : Value} {x : Win} (hx : x.Ok) (hS : SOk T S) (hpr : pr.map (·.1) = S) (ht : TabsAt w w.heap.size tv T) (hs : SrcV w w.heap.size sv pr) :
    Calls Ybaf.prog 10 #[tv, sv, .agg (winRow x)] w fun e w' => ∃ v, e = .returned v ∧ (PiecesAt w' v (outs x T S) ∧ Fr (fun _ => False) w w') := by
  obtain ⟨n0, hn0⟩ : ∃ n0, n0 = w.heap.size := ⟨_, rfl⟩
  rw [← hn0] at ht hs
  have htotb := hS.tot_b hx
  obtain ⟨bT, cT, htv, hbT, hcT, hcell⟩ := ht.ex
  obtain ⟨sa, sc, hsv, hsrc⟩ := hs.ex
  subst htv
  subst hsv
  have hlen : pr.length = S.length := by rw [← hpr, List.length_map]
  have hSn := hS.n
  obtain ⟨e1, e8, p1, p16, o1, o2⟩ := hx
  have hx : x.Ok := ⟨e1, e8, p1, p16, o1, o2⟩
  have hget : ∀ (i : Nat) q, pr[i]? = some q → S[i]? = some q.1 ∧ q.1 ∈ S ∧ ∃ t, T[q.1.ti]? = some t ∧ t.Ok := fun i q hq => by
    have h1 : S[i]? = some q.1 := by rw [← hpr, List.getElem?_map, hq]; rfl
    have h2 := List.mem_of_getElem? h1
    have h3 := hS.ti _ h2
    exact ⟨h1, h2, _, List.getElem?_eq_getElem h3, hS.tok _ (List.getElem_mem h3)⟩
  have hfr0 : Fr (fun _ => False) w w := Fr.refl w
  refine calls_of Ybaf.func10 rfl rfl ?_
  refine WP.seq ?_
  have FRsz := Fr.size hfr0
  refine WP.region ?_
  refine RL.val rfl (ex_box (q := n0) (by conv => lhs; whnf) hn0.symm) ?_
  refine RL.val rfl (ex_assign (by conv => lhs; whnf)) ?_
  refine RL.nil ?_
  refine WP.seq ?_
  refine WP.region ?_
  refine RL.val rfl (ex_assign (by conv => lhs; whnf)) ?_
  refine RL.nil ?_
  refine WP.seqc (fun F wr => ∃ (ov : Value) (prO : List (Out × Value)), Has F [(7, ov)] ∧ Fr (fun _ => False) w wr ∧ wr.ownsRow (n0 + 1) 48 4 ov prO.length (prO.flatMap outCells) ∧ prO.map (·.1) = outs x T S ∧ ∀ q, q ∈ prO → PrIn wr q) ?_ ?_
  rotate_left
  · rintro F wr ⟨ov, prO, hF, hfr, hown, hprO, hin⟩
    obtain ⟨G, rfl⟩ := hF.get
    clear hF
    refine WP.seq ?_
    refine WP.region ?_
    refine RL.val rfl (ex_move (by conv => lhs; whnf)) ?_
    refine RL.val rfl (ex_assign (by conv => lhs; whnf)) ?_
    refine RL.nil ?_
    refine WP.ret ?_
    repeat (first | refine thenQ_ret ?_ | refine blockQ_ret ?_)
    exact bodyQ_tmp rfl ⟨pieces_in hown rfl hprO hin, hfr⟩
  refine WP.seq ?_
  refine WP.region ?_
  refine RL.val rfl (ex_move (by conv => lhs; whnf)) ?_
  refine RL.val rfl (ex_len (by conv => lhs; whnf) Ybaf.sl28) ?_
  refine RL.val rfl (ex_move (by conv => lhs; whnf)) ?_
  refine RL.nil ?_
  refine WP.block ?_
  refine WP.loopk (fun mm F wr => ∃ (i : Nat) (ov : Value) (prO : List (Out × Value)), mm = pr.length - i ∧ i ≤ pr.length ∧ Has F [(0, .slice (some ⟨bT, 0, none⟩) T.length T.length), (1, .slice sa pr.length sc), (5, .pointer (some ⟨n0, 0, none⟩)), (7, ov), (23, .slice sa pr.length sc), (24, .int .i64 (pr.length : Nat)), (25, .int .i64 (i : Nat))] ∧ Fr (fun _ => False) w wr ∧ n0 + 1 ≤ wr.heap.size ∧ wr.heap[n0]? = some (.cells (winRow x) 32 (0, 0)) ∧ wr.ownsRow (n0 + 1) 48 4 ov prO.length (prO.flatMap outCells) ∧ prO.map (·.1) = outs x T (S.take i) ∧ ∀ q, q ∈ prO → PrIn wr q) pr.length
    ⟨0, _, [], rfl, Nat.zero_le _, ⟨rfl, rfl, rfl, rfl, rfl, rfl, rfl, trivial⟩, (Fr.alloc hfr0 _), by rw [sz_al]; omega, (an' (by first | (simp only [sz_al, sz_sr, sz_dn]; done) | rfl | omega | (simp only [sz_al, sz_sr, sz_dn]; omega))), ⟨rfl, .inl ⟨rfl, rfl⟩⟩, rfl, (fun _ h => by cases h)⟩ ?_
  rintro mm F wr ⟨i, ov, prO, rfl, hi, hF, hfr, hszr, h5, hown, hprO, hin⟩ K hK
  obtain ⟨G, rfl⟩ := hF.get
  clear hF
  refine WP.seq ?_
  refine WP.region ?_
  refine RL.val rfl (ex_lss (by conv => lhs; whnf) (by conv => lhs; whnf)) ?_
  refine RL.nil ?_
  refine WP.seq ?_
  refine WP.cond _ (by conv => lhs; whnf) (fun hlt1 => ?_) (fun hlt1 => ?_)
  rotate_left
  · have hik : i = S.length := by have := of_decide_eq_false hlt1; omega
    refine WP.exit ?_
    repeat (first | refine thenQ_exit ?_ | refine blockQ_hit ?_ | refine blockQ_miss rfl ?_)
    rw [hik, List.take_length] at hprO
    exact ⟨ov, prO, ⟨rfl, trivial⟩, hfr, hown, hprO, hin⟩
  have hik : i < pr.length := by have := of_decide_eq_true hlt1; omega
  obtain ⟨q, hq⟩ : ∃ q, pr[i]? = some q := ⟨_, List.getElem?_eq_getElem hik⟩
  obtain ⟨hSi, hqS, t, hti, htok⟩ := hget i q hq
  have hfB : Fr (fun k => n0 ≤ k) w wr := Fr.up hfr
  obtain ⟨_, _, _, _, _, _, hrv0⟩ := hsrc i q hq
  obtain ⟨_, _, hsv', hsrc'⟩ := (hs.keep hfB).ex
  cases hsv'
  obtain ⟨b, c, rfl, hbB, hb, hrow, hrv⟩ := hsrc' i q hq
  have hRl := hS.len _ hqS
  have hRt := hS.lt _ t hqS hti
  have hplb := hS.pl_b hx _ hqS
  have houts := outs_snoc (x := x) (T := T) hSi
  have holl := outs_le x T S i
  have holt := outs_tot x T S
  have hprl : prO.length = (outs x T (S.take i)).length := by rw [← hprO, List.length_map]
  obtain ⟨PL, hPL⟩ : ∃ PL, PL = plP x T q.1 := ⟨_, rfl⟩
  obtain ⟨R, hR⟩ : ∃ R, R = rowsOf T q.1 := ⟨_, rfl⟩
  have hPLo : PL = plOf x t R := by rw [hPL, hR, plP_some hti]
  rw [← hPL] at houts hplb
  rw [← hR] at hRl hRt
  obtain ⟨bt, bc, hbt, htab⟩ := hcell q.1.ti t hti
  have htil : q.1.ti < T.length := hS.ti _ hqS
  obtain ⟨hbc, bv, nv, cv, hcc, hbv, hcv, hvals, hnull⟩ := htab.col.ex
  have hcTr := hfr.keep hcT id
  have hbtr := hfr.keep htab.row id
  have hccr := hfr.keep hcc id
  obtain ⟨r0, hr0⟩ : ∃ r0, r0 = wr.heap.size := ⟨_, rfl⟩
  have hfrR : Fr (fun _ => False) wr wr := Fr.refl wr
  refine WP.skip ?_
  refine WP.seqc (fun F w3 => ∃ (ov' : Value) (prO' : List (Out × Value)), Has F [(0, .slice (some ⟨bT, 0, none⟩) T.length T.length), (1, .slice (some ⟨b, 0, none⟩) pr.length sc), (5, .pointer (some ⟨n0, 0, none⟩)), (7, ov'), (23, .slice (some ⟨b, 0, none⟩) pr.length sc), (24, .int .i64 (pr.length : Nat)), (25, .int .i64 (i : Nat))] ∧ Fr (fun _ => False) w w3 ∧ n0 + 1 ≤ w3.heap.size ∧ w3.heap[n0]? = some (.cells (winRow x) 32 (0, 0)) ∧ w3.ownsRow (n0 + 1) 48 4 ov' prO'.length (prO'.flatMap outCells) ∧ prO'.map (·.1) = outs x T (S.take (i + 1)) ∧ ∀ q, q ∈ prO' → PrIn w3 q) ?_ ?_
  rotate_left
  · rintro F w3 ⟨ov', prO', hF, hf3, hsz3, h53, hown3, hprO3, hin3⟩
    obtain ⟨G, rfl⟩ := hF.get
    clear hF
    refine WP.region ?_
    refine RL.val rfl (ex_add (c := ((i + 1 : Nat) : Int)) (by conv => lhs; whnf) (by conv => lhs; whnf) (by rw [IntKind.wrap_i64]; omega)) ?_
    refine RL.val rfl (ex_move (by conv => lhs; whnf)) ?_
    refine RL.nil ?_
    exact hK (pr.length - (i + 1)) _ _ (by omega) ⟨i + 1, ov', prO', rfl, by omega, ⟨rfl, rfl, rfl, rfl, rfl, rfl, rfl, trivial⟩, hf3, hsz3, h53, hown3, hprO3, hin3⟩
  refine WP.block ?_
  refine WP.seq ?_
  have LT900 := lt_of hcTr
  have LT904 := lt_of hbtr
  have LT905 := lt_of hccr
  have LT5 := lt_of h5
  have FRsz := Fr.size hfrR
  refine WP.region ?_
  refine RL.val rfl (ex_ix0 (by conv => lhs; whnf) (by conv => lhs; whnf) Ybaf.sl28 Ybaf.sz48 rfl (by omega)) ?_
  refine RL.val rfl (ex_loadR (by conv => lhs; whnf) hb Ybaf.ag48 rfl hrow) ?_
  refine RL.val rfl (ex_alloc Ybaf.zo48 (q := r0) hr0.symm) ?_
  refine RL.unit (ex_storeW (vs := (pcCells q).toArray) (by conv => lhs; whnf) (by rfl) Ybaf.ag48 (an' (by first | (simp only [sz_al, sz_sr, sz_dn]; done) | rfl | omega | (simp only [sz_al, sz_sr, sz_dn]; omega))) (by rfl) (by rfl) (all4 (rowsV_one hrv).1)) ?_
  refine RL.nil ?_
  refine WP.seq ?_
  refine WP.region ?_
  refine RL.val rfl (ex_move (by conv => lhs; whnf)) ?_
  refine RL.val rfl (ex_fieldAddr (by conv => lhs; whnf) Ybaf.fo48_0) ?_
  refine RL.val rfl (ex_loadB (v := .int .i64 (q.1.ti : Nat)) (by conv => lhs; whnf) Ybaf.sc3 (sr_eq (an' (by first | (simp only [sz_al, sz_sr, sz_dn]; done) | rfl | omega | (simp only [sz_al, sz_sr, sz_dn]; omega)))) (by rfl)) ?_
  refine RL.val rfl (ex_ix1 (by conv => lhs; whnf) (by conv => lhs; whnf) Ybaf.sl27 Ybaf.sz52 rfl (by omega)) ?_
  refine RL.val rfl (ex_load (by conv => lhs; whnf) Ybaf.sc52 (cellOf (sr_ne (al hcTr) (by (try simp only [sz_al, sz_sr, sz_dn]); omega)) hbt)) ?_
  refine RL.val rfl (ex_nilCheck (by conv => lhs; whnf)) ?_
  refine RL.val rfl (ex_fieldAddr (by conv => lhs; whnf) Ybaf.fo51_0) ?_
  refine RL.val rfl (ex_loadB (by conv => lhs; whnf) Ybaf.sc49 (sr_ne (al hbtr) (by (try simp only [sz_al, sz_sr, sz_dn]); omega)) (by conv => lhs; whnf)) ?_
  refine RL.val rfl (ex_indexAddr (k := .i64) (i := ((0 : Nat) : Int)) (m := 0) (by conv => lhs; whnf) (by rfl) Ybaf.sl49 Ybaf.sz64 rfl (by omega)) ?_
  refine RL.val rfl (ex_assign (by conv => lhs; whnf)) ?_
  refine RL.nil ?_
  refine WP.seq ?_
  refine WP.region ?_
  refine RL.val rfl (ex_move (by conv => lhs; whnf)) ?_
  refine RL.val rfl (ex_nilCheck (by conv => lhs; whnf)) ?_
  refine RL.val rfl (ex_fieldAddr (by conv => lhs; whnf) Ybaf.fo64_2) ?_
  refine RL.val rfl (ex_loadB (by conv => lhs; whnf) Ybaf.sc61 (sr_ne (al hccr) (by (try simp only [sz_al, sz_sr, sz_dn]); omega)) (by conv => lhs; whnf)) ?_
  refine RL.val rfl (ex_typeAssert (by conv => lhs; whnf) Ybaf.pl59) ?_
  refine RL.val rfl (ex_assign (by conv => lhs; whnf)) ?_
  refine RL.nil ?_
  refine WP.seqc (fun F wa => Has F [(0, .slice (some ⟨bT, 0, none⟩) T.length T.length), (1, .slice (some ⟨b, 0, none⟩) pr.length sc), (5, .pointer (some ⟨n0, 0, none⟩)), (7, ov), (23, .slice (some ⟨b, 0, none⟩) pr.length sc), (24, .int .i64 (pr.length : Nat)), (25, .int .i64 (i : Nat)), (9, .pointer (some ⟨r0, 0, none⟩)), (10, .pointer (some ⟨bc, 0, none⟩)), (11, .slice (some ⟨bv, 0, none⟩) t.vals.length t.vals.length), (12, .slice none 0 0)] ∧ Fr (fun _ => False) wr wa ∧ wa.heap[r0]? = some (.cells (pcRow q.1 q.2) 48 (0, 0))) ?_ ?_
  · refine WP.region ?_
    refine RL.val rfl (ex_assign (by conv => lhs; whnf)) ?_
    refine RL.nil ?_
    exact ⟨⟨rfl, rfl, rfl, rfl, rfl, rfl, rfl, rfl, rfl, rfl, rfl, trivial⟩, (Fr.set (Fr.alloc hfrR _) _ _ (fun hh => by first | exact rfl | exact .inl rfl | exact .inr (.inl rfl) | exact .inr (.inr rfl) | ((try simp only [sz_al, sz_sr, sz_dn] at hh); (try simp only [sz_al, sz_sr, sz_dn]); (first | omega | (dsimp only; omega) | exact .inl rfl | exact .inr (.inl rfl))))), (sr_eq (an' (by first | (simp only [sz_al, sz_sr, sz_dn]; done) | rfl | omega | (simp only [sz_al, sz_sr, sz_dn]; omega))))⟩
  rintro F wa ⟨hF, hfa, h9a⟩
  obtain ⟨G, rfl⟩ := hF.get
  clear hF
  have hfwa := hfr.trans hfa (fun _ _ h => h)
  have hcTa := hfa.keep hcTr id
  have hbta := hfa.keep hbtr id
  have hsza := hfa.size
  refine WP.seqc (fun F wl => ∃ lv, Has F [(0, .slice (some ⟨bT, 0, none⟩) T.length T.length), (1, .slice (some ⟨b, 0, none⟩) pr.length sc), (5, .pointer (some ⟨n0, 0, none⟩)), (7, ov), (23, .slice (some ⟨b, 0, none⟩) pr.length sc), (24, .int .i64 (pr.length : Nat)), (25, .int .i64 (i : Nat)), (9, .pointer (some ⟨r0, 0, none⟩)), (10, .pointer (some ⟨bc, 0, none⟩)), (11, .slice (some ⟨bv, 0, none⟩) t.vals.length t.vals.length), (12, lv)] ∧ Fr (fun _ => False) wa wl ∧ IntsAt wl lv (ints R)) ?_ ?_
  · --
    refine WP.seq ?_
    have LT9 := lt_of h9a
    have LT900 := lt_of hcTa
    have LT904 := lt_of hbta
    rcases hrv0.or with ⟨hn1, hn2⟩ | ⟨l, br, o, c', cap', hn1, hn2, _, _, _⟩
    · refine WP.region ?_
      refine RL.val rfl (ex_fieldAddr (by conv => lhs; whnf) Ybaf.fo48_1) ?_
      refine RL.val rfl (ex_loadB (v := .slice none 0 0) (by conv => lhs; whnf) Ybaf.sc46 h9a (by rw [hn2]; rfl)) ?_
      refine RL.val rfl (ex_eql_nilslice (by conv => lhs; whnf) (by conv => lhs; whnf) Ybaf.sl46) ?_
      refine RL.nil ?_
      refine WP.cond_true rfl ?_
      have hRr : R = List.range t.vals.length := by rw [hR, rowsOf, hn1]; simp [hti]
      have hvl := htok.len
      refine WP.seq ?_
      refine WP.region ?_
      refine RL.val rfl (ex_assign (by conv => lhs; whnf)) ?_
      refine RL.nil ?_
      refine WP.block ?_
      refine WP.loopk (fun mm F wl => ∃ (j : Nat) (lv : Value), mm = t.vals.length - j ∧ j ≤ t.vals.length ∧ Has F [(0, .slice (some ⟨bT, 0, none⟩) T.length T.length), (1, .slice (some ⟨b, 0, none⟩) pr.length sc), (5, .pointer (some ⟨n0, 0, none⟩)), (7, ov), (23, .slice (some ⟨b, 0, none⟩) pr.length sc), (24, .int .i64 (pr.length : Nat)), (25, .int .i64 (i : Nat)), (9, .pointer (some ⟨r0, 0, none⟩)), (10, .pointer (some ⟨bc, 0, none⟩)), (11, .slice (some ⟨bv, 0, none⟩) t.vals.length t.vals.length), (12, lv), (13, .int .i64 (j : Nat))] ∧ Fr (fun _ => False) wa wl ∧ wl.ownsRow wa.heap.size 3 1 lv j (szv (List.range j))) t.vals.length
        ⟨0, _, rfl, Nat.zero_le _, ⟨rfl, rfl, rfl, rfl, rfl, rfl, rfl, rfl, rfl, rfl, rfl, rfl, trivial⟩, Fr.refl wa, ⟨rfl, .inl ⟨rfl, rfl⟩⟩⟩ ?_
      rintro mm F wl ⟨j, lv, rfl, hj, hF, hfl, hownl⟩ K2 hK2
      obtain ⟨G, rfl⟩ := hF.get
      clear hF
      have h9l := hfl.keep h9a id
      have hcTl := hfl.keep hcTa id
      have hbtl := hfl.keep hbta id
      have hszl := hfl.size
      refine WP.seq ?_
      refine WP.seq ?_
      have LT9 := lt_of h9l
      have LT900 := lt_of hcTl
      have LT904 := lt_of hbtl
      have FRsz := Fr.size hfl
      refine WP.region ?_
      refine RL.val rfl (ex_move (by conv => lhs; whnf)) ?_
      refine RL.val rfl (ex_move (by conv => lhs; whnf)) ?_
      refine RL.val rfl (ex_fieldAddr (by conv => lhs; whnf) Ybaf.fo48_0) ?_
      refine RL.val rfl (ex_loadB (by conv => lhs; whnf) Ybaf.sc3 h9l (by conv => lhs; whnf)) ?_
      refine RL.val rfl (ex_ix1 (by conv => lhs; whnf) (by conv => lhs; whnf) Ybaf.sl27 Ybaf.sz52 rfl (by omega)) ?_
      refine RL.val rfl (ex_load (by conv => lhs; whnf) Ybaf.sc52 (cellOf hcTl hbt)) ?_
      refine RL.val rfl (ex_nilCheck (by conv => lhs; whnf)) ?_
      refine RL.val rfl (ex_fieldAddr (by conv => lhs; whnf) Ybaf.fo51_1) ?_
      refine RL.val rfl (ex_loadB (by conv => lhs; whnf) Ybaf.sc3 hbtl (by conv => lhs; whnf)) ?_
      refine RL.val rfl (ex_lss (by conv => lhs; whnf) (by conv => lhs; whnf)) ?_
      refine RL.nil ?_
      refine WP.cond _ (by conv => lhs; whnf) (fun hlt2 => ?_) (fun hlt2 => ?_)
      rotate_left
      · have hjk : j = t.vals.length := by have := of_decide_eq_false hlt2; omega
        refine WP.exit ?_
        repeat (first | refine thenQ_exit ?_ | refine blockQ_hit ?_ | refine blockQ_miss rfl ?_)
        exact ⟨lv, ⟨rfl, rfl, rfl, rfl, rfl, rfl, rfl, rfl, rfl, rfl, rfl, trivial⟩, hfl, intsAt_own (by rw [hRr, ← hjk]; exact hownl) (by rw [hRr, List.length_range, hjk])⟩
      have hjk : j < t.vals.length := by have := of_decide_eq_true hlt2; omega
      refine WP.skip ?_
      refine WP.seq ?_
      refine WP.block ?_
      refine WP.region ?_
      refine RL.val rfl (ex_move (by conv => lhs; whnf)) ?_
      refine RL.val rfl (ex_move (by conv => lhs; whnf)) ?_
      refine RL.val rfl (ex_buildSlice1 (by conv => lhs; whnf) Ybaf.sl46 Ybaf.sz3 Ybaf.zo3 rfl rfl rfl (by first | (conv => lhs; simp only [sz_al, sz_sr, sz_dn]) | rfl)) ?_
      refine RL.append1at wa.heap.size rfl Ybaf.sl46 Ybaf.in3 rfl rfl rfl (by conv => lhs; whnf) (by conv => lhs; whnf) (hownl.alloc _) (an' (by first | (simp only [sz_al, sz_sr, sz_dn]; done) | rfl | omega | (simp only [sz_al, sz_sr, sz_dn]; omega))) (by rfl) (by rfl) (by omega) (by rw [sz_al]; omega) ?_
      intro lv' wl2 hownl2 hgr hlv hat
      refine RL.val rfl (ex_assign (by conv => lhs; whnf)) ?_
      refine RL.nil ?_
      refine WP.region ?_
      refine RL.val rfl (ex_move (by conv => lhs; whnf)) ?_
      refine RL.val rfl (ex_add (c := ((j + 1 : Nat) : Int)) (by conv => lhs; whnf) (by conv => lhs; whnf) (by rw [IntKind.wrap_i64]; omega)) ?_
      refine RL.val rfl (ex_assign (by conv => lhs; whnf)) ?_
      refine RL.nil ?_
      refine hK2 (t.vals.length - (j + 1)) _ _ (by omega) ⟨j + 1, lv', rfl, by omega, ⟨rfl, rfl, rfl, rfl, rfl, rfl, rfl, rfl, rfl, rfl, rfl, rfl, trivial⟩, (Fr.growna hfl hgr (fun kk hkk hlt => absurd (hownl.lt kk hkk).1 (by omega))), ?_⟩
      have e : szv (List.range (j + 1)) = szv (List.range j) ++ [.int .i64 (j : Nat)] := by simp [szv, List.range_succ]
      rw [e]
      exact hownl2
    · refine WP.region ?_
      refine RL.val rfl (ex_fieldAddr (by conv => lhs; whnf) Ybaf.fo48_1) ?_
      refine RL.val rfl (ex_loadB (v := .slice (some ⟨br, o, none⟩) l.length cap') (by conv => lhs; whnf) Ybaf.sc46 h9a (by rw [hn2]; rfl)) ?_
      refine RL.val rfl (ex_eql_nilslice (by conv => lhs; whnf) (by conv => lhs; whnf) Ybaf.sl46) ?_
      refine RL.nil ?_
      refine WP.cond_false rfl ?_
      have hRr : R = l := by rw [hR, rowsOf, hn1]
      refine WP.region ?_
      refine RL.val rfl (ex_fieldAddr (by conv => lhs; whnf) Ybaf.fo48_1) ?_
      refine RL.val rfl (ex_loadB (v := q.2) (by conv => lhs; whnf) Ybaf.sc46 h9a (by rfl)) ?_
      refine RL.val rfl (ex_assign (by conv => lhs; whnf)) ?_
      refine RL.nil ?_
      refine ⟨q.2, ⟨rfl, rfl, rfl, rfl, rfl, rfl, rfl, rfl, rfl, rfl, rfl, trivial⟩, Fr.refl wa, ?_⟩
      have := hrv0.keep (Fr.up hfwa)
      rw [hn1] at this
      rw [hRr]
      exact intsAt_rows this
  rintro F wl ⟨lv, hF, hfl, hlv⟩
  obtain ⟨G, rfl⟩ := hF.get
  clear hF
  obtain ⟨la, lc, hlv2, hlcell⟩ := hlv.form
  have hil : (ints R).length = R.length := by simp [ints]
  rw [hil] at hlv2
  subst hlv2
  have hfwl : Fr (fun _ => False) w wl := hfwa.trans hfl (fun _ _ h => h)
  have hfrl : Fr (fun _ => False) wr wl := hfa.trans hfl (fun _ _ h => h)
  obtain ⟨B1, hB1⟩ : ∃ B1, B1 = wl.heap.size := ⟨_, rfl⟩
  have hB1' : wl.heap.size ≤ B1 := by omega
  have h5l := hfrl.keep h5 id
  have hccl := hfrl.keep hccr id
  have hcvl := hfwl.keep hcv id
  have h9l := hfl.keep h9a id
  obtain ⟨P, hP⟩ : ∃ P : Nat, (P : Int) = x.p := ⟨x.p.toNat, by omega⟩
  refine WP.seq ?_
  refine WP.region ?_
  refine RL.val rfl (ex_assign (by conv => lhs; whnf)) ?_
  refine RL.nil ?_
  refine WP.seq ?_
  refine WP.region ?_
  refine RL.val rfl (ex_assign (by conv => lhs; whnf)) ?_
  refine RL.nil ?_
  refine WP.seqc (fun F wg => ∃ stv gv gvals, Has F [(0, .slice (some ⟨bT, 0, none⟩) T.length T.length), (1, .slice (some ⟨b, 0, none⟩) pr.length sc), (5, .pointer (some ⟨n0, 0, none⟩)), (7, ov), (23, .slice (some ⟨b, 0, none⟩) pr.length sc), (24, .int .i64 (pr.length : Nat)), (25, .int .i64 (i : Nat)), (9, .pointer (some ⟨r0, 0, none⟩)), (10, .pointer (some ⟨bc, 0, none⟩)), (11, .slice (some ⟨bv, 0, none⟩) t.vals.length t.vals.length), (14, stv), (15, gv)] ∧ Gs wl B1 (wsOf PL) (groups PL) stv gv gvals wg) ?_ ?_
  · --
    refine WP.seq ?_
    refine WP.region ?_
    refine RL.val rfl (ex_move (by conv => lhs; whnf)) ?_
    refine RL.val rfl (ex_len (by conv => lhs; whnf) Ybaf.sl46) ?_
    refine RL.val rfl (ex_move (by conv => lhs; whnf)) ?_
    refine RL.nil ?_
    refine WP.block ?_
    refine WP.loopk (fun mm F W => ∃ (k : Nat) (stv gv : Value) (gvals : List Value), mm = R.length - k ∧ k ≤ R.length ∧ Has F [(0, .slice (some ⟨bT, 0, none⟩) T.length T.length), (1, .slice (some ⟨b, 0, none⟩) pr.length sc), (5, .pointer (some ⟨n0, 0, none⟩)), (7, ov), (23, .slice (some ⟨b, 0, none⟩) pr.length sc), (24, .int .i64 (pr.length : Nat)), (25, .int .i64 (i : Nat)), (9, .pointer (some ⟨r0, 0, none⟩)), (10, .pointer (some ⟨bc, 0, none⟩)), (11, .slice (some ⟨bv, 0, none⟩) t.vals.length t.vals.length), (14, stv), (15, gv), (64, .slice la R.length lc), (65, .int .i64 (R.length : Nat)), (66, .int .i64 (k : Nat))] ∧ Gs wl B1 (wsOf (plOf x t (R.take k))) (groups (plOf x t (R.take k))) stv gv gvals W) R.length
      ⟨0, _, _, [], rfl, Nat.zero_le _, ⟨rfl, rfl, rfl, rfl, rfl, rfl, rfl, rfl, rfl, rfl, rfl, rfl, rfl, rfl, rfl, trivial⟩, ⟨Fr.refl wl, ⟨rfl, .inl ⟨rfl, rfl⟩⟩, ⟨rfl, .inl ⟨rfl, rfl⟩⟩, (fun k l v h => by simp [groups, plOf, wsOf] at h), (fun k k' v v' _ h => by simp at h)⟩⟩ ?_
    rintro mm F W ⟨k, stv, gv, gvals, rfl, hk, hF, hG⟩ K2 hK2
    obtain ⟨G, rfl⟩ := hF.get
    clear hF
    refine WP.seq ?_
    refine WP.region ?_
    refine RL.val rfl (ex_lss (by conv => lhs; whnf) (by conv => lhs; whnf)) ?_
    refine RL.nil ?_
    refine WP.seq ?_
    refine WP.cond _ (by conv => lhs; whnf) (fun hlt2 => ?_) (fun hlt2 => ?_)
    rotate_left
    · have hkk : k = R.length := by have := of_decide_eq_false hlt2; omega
      refine WP.exit ?_
      repeat (first | refine thenQ_exit ?_ | refine blockQ_hit ?_ | refine blockQ_miss rfl ?_)
      rw [hkk, List.take_length, ← hPLo] at hG
      exact ⟨stv, gv, gvals, ⟨rfl, rfl, rfl, rfl, rfl, rfl, rfl, rfl, rfl, rfl, rfl, rfl, trivial⟩, hG⟩
    have hkk : k < R.length := by have := of_decide_eq_true hlt2; omega
    obtain ⟨r, hr⟩ : ∃ r, R[k]? = some r := ⟨_, List.getElem?_eq_getElem hkk⟩
    have hrl := hRt r (List.mem_of_getElem? hr)
    have hvb := val_lo htok hrl
    obtain ⟨lb, lo, hla, hlc0⟩ := hlcell k ((r : Nat) : Int) (by simp [ints, hr])
    subst hla
    refine WP.skip ?_
    refine WP.seqc (fun F W2 => ∃ (stv gv : Value) (gvals : List Value), Has F [(0, .slice (some ⟨bT, 0, none⟩) T.length T.length), (1, .slice (some ⟨b, 0, none⟩) pr.length sc), (5, .pointer (some ⟨n0, 0, none⟩)), (7, ov), (23, .slice (some ⟨b, 0, none⟩) pr.length sc), (24, .int .i64 (pr.length : Nat)), (25, .int .i64 (i : Nat)), (9, .pointer (some ⟨r0, 0, none⟩)), (10, .pointer (some ⟨bc, 0, none⟩)), (11, .slice (some ⟨bv, 0, none⟩) t.vals.length t.vals.length), (14, stv), (15, gv), (64, .slice (some ⟨lb, lo, none⟩) R.length lc), (65, .int .i64 (R.length : Nat)), (66, .int .i64 (k : Nat))] ∧ Gs wl B1 (wsOf (plOf x t (R.take (k + 1)))) (groups (plOf x t (R.take (k + 1)))) stv gv gvals W2) ?_ ?_
    rotate_left
    · rintro F W2 ⟨stv, gv, gvals, hF, hG⟩
      obtain ⟨G, rfl⟩ := hF.get
      clear hF
      refine WP.region ?_
      refine RL.val rfl (ex_add (c := ((k + 1 : Nat) : Int)) (by conv => lhs; whnf) (by conv => lhs; whnf) (by rw [IntKind.wrap_i64]; omega)) ?_
      refine RL.val rfl (ex_move (by conv => lhs; whnf)) ?_
      refine RL.nil ?_
      exact hK2 (R.length - (k + 1)) _ _ (by omega) ⟨k + 1, stv, gv, gvals, rfl, by omega, ⟨rfl, rfl, rfl, rfl, rfl, rfl, rfl, rfl, rfl, rfl, rfl, rfl, rfl, rfl, rfl, trivial⟩, hG⟩
    have hccW := hG.fr.keep hccl id
    have hcvW := hG.fr.keep hcvl id
    have h5W := hG.fr.keep h5l id
    have hnullW := hnull.keep (Fr.up (hfwl.trans hG.fr (fun _ _ h => h)) : Fr (fun k => n0 ≤ k) w W)
    refine WP.block ?_
    refine WP.seq ?_
    have LT905 := lt_of hccW
    refine WP.region ?_
    refine RL.val rfl (ex_ixa (by conv => lhs; whnf) (by conv => lhs; whnf) Ybaf.sl46 Ybaf.sz3 rfl (by omega)) ?_
    refine RL.val rfl (ex_load (by conv => lhs; whnf) Ybaf.sc3 (hG.fr.cell hlc0 id)) ?_
    refine RL.val rfl (ex_assign (by conv => lhs; whnf)) ?_
    refine RL.nil ?_
    refine WP.seqc (fun F W2 => Has F [(0, .slice (some ⟨bT, 0, none⟩) T.length T.length), (1, .slice (some ⟨b, 0, none⟩) pr.length sc), (5, .pointer (some ⟨n0, 0, none⟩)), (7, ov), (23, .slice (some ⟨b, 0, none⟩) pr.length sc), (24, .int .i64 (pr.length : Nat)), (25, .int .i64 (i : Nat)), (9, .pointer (some ⟨r0, 0, none⟩)), (10, .pointer (some ⟨bc, 0, none⟩)), (11, .slice (some ⟨bv, 0, none⟩) t.vals.length t.vals.length), (14, stv), (15, gv), (64, .slice (some ⟨lb, lo, none⟩) R.length lc), (65, .int .i64 (R.length : Nat)), (66, .int .i64 (k : Nat)), (17, .int .i64 (r : Nat))] ∧ W2 = W ∧ nullB t.nulls r = false) ?_ ?_
    · refine WP.seq ?_
      rcases hnullW.or with ⟨h1, hnv⟩ | ⟨l, bn, cn, h1, hnv, hbn, hcn, hncell⟩
      · subst hnv
        refine WP.region ?_
        refine RL.val rfl (ex_move (by conv => lhs; whnf)) ?_
        refine RL.val rfl (ex_nilCheck (by conv => lhs; whnf)) ?_
        refine RL.val rfl (ex_fieldAddr (by conv => lhs; whnf) Ybaf.fo64_3) ?_
        refine RL.val rfl (ex_loadB (by conv => lhs; whnf) Ybaf.sc62 hccW (by conv => lhs; whnf)) ?_
        refine RL.val rfl (ex_neq_nilslice (by conv => lhs; whnf) (by conv => lhs; whnf) Ybaf.sl62) ?_
        refine RL.val rfl (ex_move (by conv => lhs; whnf)) ?_
        refine RL.skip (dj := 75) (b := false) rfl rfl rfl rfl ?_
        refine RL.skip (dj := 75) (b := false) rfl rfl rfl rfl ?_
        refine RL.skip (dj := 75) (b := false) rfl rfl rfl rfl ?_
        refine RL.skip (dj := 75) (b := false) rfl rfl rfl rfl ?_
        refine RL.skip (dj := 75) (b := false) rfl rfl rfl rfl ?_
        refine RL.skip (dj := 75) (b := false) rfl rfl rfl rfl ?_
        refine RL.skip (dj := 75) (b := false) rfl rfl rfl rfl ?_
        refine RL.val rfl (ex_pick_f rfl (by conv => lhs; whnf)) ?_
        refine RL.nil ?_
        refine WP.cond_false rfl ?_
        refine WP.skip ?_
        exact ⟨⟨rfl, rfl, rfl, rfl, rfl, rfl, rfl, rfl, rfl, rfl, rfl, rfl, rfl, rfl, rfl, rfl, trivial⟩, rfl, by rw [h1]; rfl⟩
      · subst hnv
        have hll := htok.n1 l h1
        obtain ⟨nb, hnb⟩ : ∃ nb, l[r]? = some nb := ⟨_, List.getElem?_eq_getElem (by omega)⟩
        have hnB : nullB t.nulls r = nb := by rw [h1, nullB, List.getD_eq_getElem?_getD, hnb]; rfl
        refine WP.region ?_
        refine RL.val rfl (ex_move (by conv => lhs; whnf)) ?_
        refine RL.val rfl (ex_nilCheck (by conv => lhs; whnf)) ?_
        refine RL.val rfl (ex_fieldAddr (by conv => lhs; whnf) Ybaf.fo64_3) ?_
        refine RL.val rfl (ex_loadB (by conv => lhs; whnf) Ybaf.sc62 hccW (by conv => lhs; whnf)) ?_
        refine RL.val rfl (ex_neq_nilslice (by conv => lhs; whnf) (by conv => lhs; whnf) Ybaf.sl62) ?_
        refine RL.val rfl (ex_move (by conv => lhs; whnf)) ?_
        refine RL.take (dj := 75) rfl rfl ?_
        refine RL.val rfl (ex_move (by conv => lhs; whnf)) ?_
        refine RL.take (dj := 75) rfl rfl ?_
        refine RL.val rfl (ex_nilCheck (by conv => lhs; whnf)) ?_
        refine RL.take (dj := 75) rfl rfl ?_
        refine RL.val rfl (ex_fieldAddr (by conv => lhs; whnf) Ybaf.fo64_3) ?_
        refine RL.take (dj := 75) rfl rfl ?_
        refine RL.val rfl (ex_loadB (by conv => lhs; whnf) Ybaf.sc62 hccW (by conv => lhs; whnf)) ?_
        refine RL.take (dj := 75) rfl rfl ?_
        refine RL.val rfl (ex_move (by conv => lhs; whnf)) ?_
        refine RL.take (dj := 75) rfl rfl ?_
        refine RL.val rfl (ex_ix1 (by conv => lhs; whnf) (by conv => lhs; whnf) Ybaf.sl62 Ybaf.sz4 rfl (by omega)) ?_
        refine RL.take (dj := 75) rfl rfl ?_
        refine RL.val rfl (ex_load (by conv => lhs; whnf) Ybaf.sc4 (cellOf hcn (hncell r nb hnb))) ?_
        refine RL.val rfl (ex_pick_t rfl (by conv => lhs; whnf)) ?_
        refine RL.nil ?_
        refine WP.cond nb rfl (fun e => ?_) (fun e => ?_)
        · subst e
          refine WP.exit ?_
          repeat (first | refine thenQ_exit ?_ | refine blockQ_hit ?_ | refine blockQ_miss rfl ?_)
          rw [plOf_take_succ hr, plRow_null hnB, List.append_nil]
          exact ⟨stv, gv, gvals, ⟨rfl, rfl, rfl, rfl, rfl, rfl, rfl, rfl, rfl, rfl, rfl, rfl, rfl, rfl, rfl, trivial⟩, hG⟩
        · subst e
          refine WP.skip ?_
          exact ⟨⟨rfl, rfl, rfl, rfl, rfl, rfl, rfl, rfl, rfl, rfl, rfl, rfl, rfl, rfl, rfl, rfl, trivial⟩, rfl, hnB⟩
    rintro F W2 ⟨hF, rfl, hnB⟩
    obtain ⟨G, rfl⟩ := hF.get
    clear hF
    refine WP.seq ?_
    refine WP.region ?_
    refine RL.val rfl (ex_move (by conv => lhs; whnf)) ?_
    refine RL.val rfl (ex_move (by conv => lhs; whnf)) ?_
    refine RL.val rfl (ex_ix1 (by conv => lhs; whnf) (by conv => lhs; whnf) Ybaf.sl59 Ybaf.sz2 rfl (by omega)) ?_
    refine RL.val rfl (ex_load (by conv => lhs; whnf) Ybaf.sc2 (cellOf hcvW (hvals r _ (val_get hrl)))) ?_
    refine RL.val rfl (ex_assign (by conv => lhs; whnf)) ?_
    refine RL.nil ?_
    refine WP.seq ?_
    refine WP.region ?_
    refine RL.val rfl (ex_move (by conv => lhs; whnf)) ?_
    refine RL.val rfl (ex_assign (by conv => lhs; whnf)) ?_
    refine RL.nil ?_
    refine WP.block ?_
    refine WP.loopk (fun mm F W => ∃ (d : Nat) (stv gv : Value) (gvals : List Value), mm = P - d ∧ d ≤ P ∧ Has F [(0, .slice (some ⟨bT, 0, none⟩) T.length T.length), (1, .slice (some ⟨b, 0, none⟩) pr.length sc), (5, .pointer (some ⟨n0, 0, none⟩)), (7, ov), (23, .slice (some ⟨b, 0, none⟩) pr.length sc), (24, .int .i64 (pr.length : Nat)), (25, .int .i64 (i : Nat)), (9, .pointer (some ⟨r0, 0, none⟩)), (10, .pointer (some ⟨bc, 0, none⟩)), (11, .slice (some ⟨bv, 0, none⟩) t.vals.length t.vals.length), (14, stv), (15, gv), (64, .slice (some ⟨lb, lo, none⟩) R.length lc), (65, .int .i64 (R.length : Nat)), (66, .int .i64 (k : Nat)), (17, .int .i64 (r : Nat)), (18, .int .i64 (valI t r)), (19, .int .i64 (valI t r - (d : Nat)))] ∧ Gs wl B1 (wsOf (plOf x t (R.take k) ++ (plRow x t r).take (metN x t r d))) (groups (plOf x t (R.take k) ++ (plRow x t r).take (metN x t r d))) stv gv gvals W) P
      ⟨0, stv, gv, gvals, rfl, Nat.zero_le _, ⟨rfl, rfl, rfl, rfl, rfl, rfl, rfl, rfl, rfl, rfl, rfl, rfl, rfl, rfl, rfl, rfl, rfl, (by simp only [Int.natCast_zero, Int.sub_zero]; rfl), trivial⟩, by rw [met_zero hx, List.take_zero, List.append_nil]; exact hG⟩ ?_
    clear hG hccW hcvW h5W hnullW
    rintro mm F W ⟨d, stv, gv, gvals, rfl, hd, hF, hG⟩ K3 hK3
    obtain ⟨G, rfl⟩ := hF.get
    clear hF
    have h5W := hG.fr.keep h5l id
    refine WP.seq ?_
    refine WP.seq ?_
    have LT5 := lt_of h5W
    refine WP.region ?_
    refine RL.val rfl (ex_move (by conv => lhs; whnf)) ?_
    refine RL.val rfl (ex_move (by conv => lhs; whnf)) ?_
    refine RL.val rfl (ex_fieldAddr (by conv => lhs; whnf) Ybaf.fo32_1) ?_
    refine RL.val rfl (ex_loadB (by conv => lhs; whnf) Ybaf.sc2 h5W (by conv => lhs; whnf)) ?_
    refine RL.val rfl (ex_sub (c := valI t r - x.p) (by conv => lhs; whnf) (by conv => lhs; whnf) (by rw [IntKind.wrap_i64]; omega)) ?_
    refine RL.val rfl (ex_gtr (by conv => lhs; whnf) (by conv => lhs; whnf)) ?_
    refine RL.nil ?_
    refine WP.cond _ (by conv => lhs; whnf) (fun hlt3 => ?_) (fun hlt3 => ?_)
    rotate_left
    · have hdd : d = P := by have := of_decide_eq_false hlt3; omega
      refine WP.exit ?_
      repeat (first | refine thenQ_exit ?_ | refine blockQ_hit ?_ | refine blockQ_miss rfl ?_)
      rw [hdd, met_end hx hP hnB, ← plOf_take_succ hr] at hG
      exact ⟨stv, gv, gvals, ⟨rfl, rfl, rfl, rfl, rfl, rfl, rfl, rfl, rfl, rfl, rfl, rfl, rfl, rfl, rfl, trivial⟩, hG⟩
    have hdd : d < P := by have := of_decide_eq_true hlt3; omega
    obtain ⟨L, hL⟩ : ∃ L, L = plOf x t (R.take k) ++ (plRow x t r).take (metN x t r d) := ⟨_, rfl⟩
    have hLb : L.length ≤ 5000 := by
      have h1 := plOf_bound hx t (R.take k)
      have h2 : (R.take k).length ≤ 256 := by rw [List.length_take]; omega
      have h3 := hold_lo (t := t) (r := r) hx
      have h4 : ((plRow x t r).take (metN x t r d)).length ≤ (plRow x t r).length := by rw [List.length_take]; omega
      rw [plRow_len] at h4
      rw [hL, List.length_append]
      omega
    rw [← hL] at hG
    refine WP.skip ?_
    refine WP.seqc (fun F W2 => ∃ (stv gv : Value) (gvals : List Value), Has F [(0, .slice (some ⟨bT, 0, none⟩) T.length T.length), (1, .slice (some ⟨b, 0, none⟩) pr.length sc), (5, .pointer (some ⟨n0, 0, none⟩)), (7, ov), (23, .slice (some ⟨b, 0, none⟩) pr.length sc), (24, .int .i64 (pr.length : Nat)), (25, .int .i64 (i : Nat)), (9, .pointer (some ⟨r0, 0, none⟩)), (10, .pointer (some ⟨bc, 0, none⟩)), (11, .slice (some ⟨bv, 0, none⟩) t.vals.length t.vals.length), (14, stv), (15, gv), (64, .slice (some ⟨lb, lo, none⟩) R.length lc), (65, .int .i64 (R.length : Nat)), (66, .int .i64 (k : Nat)), (17, .int .i64 (r : Nat)), (18, .int .i64 (valI t r)), (19, .int .i64 (valI t r - (d : Nat)))] ∧ Gs wl B1 (wsOf (plOf x t (R.take k) ++ (plRow x t r).take (metN x t r (d + 1)))) (groups (plOf x t (R.take k) ++ (plRow x t r).take (metN x t r (d + 1)))) stv gv gvals W2) ?_ ?_
    rotate_left
    · rintro F W2 ⟨stv, gv, gvals, hF, hG⟩
      obtain ⟨G, rfl⟩ := hF.get
      clear hF
      refine WP.region ?_
      refine RL.val rfl (ex_move (by conv => lhs; whnf)) ?_
      refine RL.val rfl (ex_sub (c := valI t r - ((d + 1 : Nat) : Int)) (by conv => lhs; whnf) (by conv => lhs; whnf) (by rw [IntKind.wrap_i64]; omega)) ?_
      refine RL.val rfl (ex_assign (by conv => lhs; whnf)) ?_
      refine RL.nil ?_
      exact hK3 (P - (d + 1)) _ _ (by omega) ⟨d + 1, stv, gv, gvals, rfl, by omega, ⟨rfl, rfl, rfl, rfl, rfl, rfl, rfl, rfl, rfl, rfl, rfl, rfl, rfl, rfl, rfl, rfl, rfl, rfl, trivial⟩, hG⟩
    refine WP.block ?_
    refine WP.seq ?_
    refine WP.seq ?_
    have LT5 := lt_of h5W
    refine WP.region ?_
    refine RL.val rfl (ex_move (by conv => lhs; whnf)) ?_
    refine RL.val rfl (ex_fieldAddr (by conv => lhs; whnf) Ybaf.fo32_2) ?_
    refine RL.val rfl (ex_loadB (by conv => lhs; whnf) Ybaf.sc2 h5W (by conv => lhs; whnf)) ?_
    refine RL.val rfl (ex_sub (c := valI t r - (d : Nat) - x.o) (by conv => lhs; whnf) (by conv => lhs; whnf) (by rw [IntKind.wrap_i64]; omega)) ?_
    refine RL.val rfl (ex_fieldAddr (by conv => lhs; whnf) Ybaf.fo32_0) ?_
    refine RL.val rfl (ex_loadB (by conv => lhs; whnf) Ybaf.sc2 h5W (by conv => lhs; whnf)) ?_
    refine RL.call rfl (ex_call2 rfl (by conv => lhs; whnf) (by conv => lhs; whnf) Ybaf.fun18) (mod18 (by omega) (by omega)) ?_
    rintro v W2 ⟨rfl, rfl⟩
    refine RL.val rfl (ex_neq (by conv => lhs; whnf) (by conv => lhs; whnf)) ?_
    refine RL.nil ?_
    refine WP.cond _ (by conv => lhs; whnf) (fun hmod => ?_) (fun hmod => ?_)
    · have hmod := of_decide_eq_true hmod
      refine WP.exit ?_
      repeat (first | refine thenQ_exit ?_ | refine blockQ_hit ?_ | refine blockQ_miss rfl ?_)
      rw [met_miss hx hmod, ← hL]
      exact ⟨stv, gv, gvals, ⟨rfl, rfl, rfl, rfl, rfl, rfl, rfl, rfl, rfl, rfl, rfl, rfl, rfl, rfl, rfl, rfl, rfl, rfl, trivial⟩, hG⟩
    have hmod : (valI t r - (d : Nat) - x.o) % x.e = 0 := Decidable.not_not.1 (of_decide_eq_false hmod)
    obtain ⟨hm1, hm2⟩ := met_hit hx hP hdd hnB hmod
    obtain ⟨s, hs'⟩ : ∃ s, s = valI t r - (d : Nat) := ⟨_, rfl⟩
    rw [← hs'] at hm2
    have hL1 : plOf x t (R.take k) ++ (plRow x t r).take (metN x t r (d + 1)) = L ++ [(r, s)] := by rw [hm1, take_snoc hm2, ← List.append_assoc, ← hL]
    rw [hL1]
    have hwl := ws_len (L := L)
    have hgsl : (groups L).length = (wsOf L).length := by simp [groups]
    refine WP.skip ?_
    refine WP.seq ?_
    refine WP.region ?_
    refine RL.val rfl (ex_move (by conv => lhs; whnf)) ?_
    refine RL.val rfl (ex_move (by conv => lhs; whnf)) ?_
    refine RL.call rfl (ex_call2 rfl (by conv => lhs; whnf) (v1 := .int .i64 s) (by rw [hs']; rfl) Ybaf.fun19) (indexOf (z := s) (intsAt_own2 hG.os rfl) (by omega)) ?_
    rintro v W2 ⟨rfl, rfl⟩
    refine RL.val rfl (ex_assign (by conv => lhs; whnf)) ?_
    refine RL.nil ?_
    refine WP.seqc (fun F W3 => ∃ (idx : Nat) (l : List Nat) (v : Value) (gs : List (List Nat)) (stv gv : Value) (gvals : List Value), Has F [(0, .slice (some ⟨bT, 0, none⟩) T.length T.length), (1, .slice (some ⟨b, 0, none⟩) pr.length sc), (5, .pointer (some ⟨n0, 0, none⟩)), (7, ov), (23, .slice (some ⟨b, 0, none⟩) pr.length sc), (24, .int .i64 (pr.length : Nat)), (25, .int .i64 (i : Nat)), (9, .pointer (some ⟨r0, 0, none⟩)), (10, .pointer (some ⟨bc, 0, none⟩)), (11, .slice (some ⟨bv, 0, none⟩) t.vals.length t.vals.length), (14, stv), (15, gv), (64, .slice (some ⟨lb, lo, none⟩) R.length lc), (65, .int .i64 (R.length : Nat)), (66, .int .i64 (k : Nat)), (17, .int .i64 (r : Nat)), (18, .int .i64 (valI t r)), (19, .int .i64 s), (20, .int .i64 (idx : Nat))] ∧ Gs wl B1 (wsOf (L ++ [(r, s)])) gs stv gv gvals W3 ∧ gs[idx]? = some l ∧ gvals[idx]? = some v ∧ l.length ≤ 5000 ∧ gs.set idx (l ++ [r]) = groups (L ++ [(r, s)])) ?_ ?_
    · refine WP.seq ?_
      rw [hs']
      refine WP.region ?_
      refine RL.val rfl (ex_move (by conv => lhs; whnf)) ?_
      refine RL.val rfl (ex_lss (by conv => lhs; whnf) (by conv => lhs; whnf)) ?_
      refine RL.nil ?_
      rw [← hs']
      by_cases hin : s ∈ wsOf L
      · have hw1 : wsOf (L ++ [(r, s)]) = wsOf L := by rw [wsOf_snoc, addW, if_pos hin]
        have hilt := List.idxOf_lt_length_of_mem hin
        refine WP.cond_false (by rw [if_pos hin]; exact congrArg Value.bool (decide_eq_false (by omega))) ?_
        refine WP.skip ?_
        have hgl := hG.gl
        have hgi : (groups L)[(wsOf L).idxOf s]? = some (grp L s) := by simp only [groups, List.getElem?_map, ws_idx hin, Option.map_some]
        refine ⟨(wsOf L).idxOf s, grp L s, _, groups L, stv, gv, gvals, ⟨rfl, rfl, rfl, rfl, rfl, rfl, rfl, rfl, rfl, rfl, rfl, rfl, rfl, rfl, rfl, rfl, rfl, (by rw [hs']; rfl), (by rw [if_pos hin]; rfl), trivial⟩, by rw [hw1]; exact hG, hgi, List.getElem?_eq_getElem (by omega), by have := grp_le L s; omega, (groups_hit hin).symm⟩
      · have hw1 : wsOf (L ++ [(r, s)]) = wsOf L ++ [s] := by rw [wsOf_snoc, addW, if_neg hin]
        refine WP.cond_true (by rw [if_neg hin]; rfl) ?_
        refine WP.seq ?_
        obtain ⟨sta, stc, hstv, _⟩ := own_value hG.os
        subst hstv
        refine WP.region ?_
        refine RL.val rfl (ex_move (by conv => lhs; whnf)) ?_
        refine RL.val rfl (ex_len (by conv => lhs; whnf) Ybaf.sl58) ?_
        refine RL.val rfl (ex_assign (by conv => lhs; whnf)) ?_
        refine RL.nil ?_
        refine WP.seq ?_
        refine WP.region ?_
        refine RL.val rfl (ex_move (by conv => lhs; whnf)) ?_
        refine RL.val rfl (ex_move (by conv => lhs; whnf)) ?_
        refine RL.val rfl (ex_buildSlice1 (by conv => lhs; whnf) Ybaf.sl58 Ybaf.sz2 Ybaf.zo2 rfl rfl rfl (by first | (conv => lhs; simp only [sz_al, sz_sr, sz_dn]) | rfl)) ?_
        refine RL.append1at B1 rfl Ybaf.sl58 Ybaf.in2 rfl rfl rfl (by conv => lhs; whnf) (by conv => lhs; whnf) (hG.os.alloc _) (an' (by first | (simp only [sz_al, sz_sr, sz_dn]; done) | rfl | omega | (simp only [sz_al, sz_sr, sz_dn]; omega))) (by rfl) (by rfl) (by omega) (by have := hG.fr.size; rw [sz_al]; omega) ?_
        intro stv' W3 hos3 hgr3 hv3 hat3
        obtain ⟨g3, c3, rfl⟩ := hv3
        refine RL.val rfl (ex_assign (by conv => lhs; whnf)) ?_
        refine RL.nil ?_
        have hG3 := hG.start hB1' hgr3 hos3 (s := s)
        obtain ⟨ga, gc, hgv, _⟩ := own_value hG3.og
        subst hgv
        refine WP.region ?_
        refine RL.val rfl (ex_move (by conv => lhs; whnf)) ?_
        refine RL.val rfl (ex_buildSlice1 (by conv => lhs; whnf) Ybaf.sl76 Ybaf.sz46 Ybaf.zo46 rfl rfl rfl (by first | (conv => lhs; simp only [sz_al, sz_sr, sz_dn]) | rfl)) ?_
        refine RL.append1at B1 rfl Ybaf.sl76 Ybaf.in46 rfl rfl rfl (by conv => lhs; whnf) (by conv => lhs; whnf) (hG3.og.alloc _) (an' (by first | (simp only [sz_al, sz_sr, sz_dn]; done) | rfl | omega | (simp only [sz_al, sz_sr, sz_dn]; omega))) (by rfl) (by rfl) (by omega) (by have := hG3.fr.size; rw [sz_al]; omega) ?_
        intro gv' W4 hog4 hgr4 hv4 hat4
        obtain ⟨g4, c4, rfl⟩ := hv4
        refine RL.val rfl (ex_assign (by conv => lhs; whnf)) ?_
        refine RL.nil ?_
        have hG4 := hG3.group hB1' hgr4 hog4
        have hgl := hG.gl
        refine ⟨(wsOf L).length, [], .slice none 0 0, groups L ++ [[]], _, _, _, ⟨rfl, rfl, rfl, rfl, rfl, rfl, rfl, rfl, rfl, rfl, rfl, rfl, rfl, rfl, rfl, rfl, rfl, (by rw [hs']; rfl), rfl, trivial⟩, by rw [hw1]; exact hG4, by rw [List.getElem?_append_right (by omega), hgsl]; simp, by rw [List.getElem?_append_right (by omega), hgl, hgsl]; simp, by simp, ?_⟩
        rw [groups_new hin, List.set_append_right _ _ (by omega), hgsl]
        simp
    rintro F W3 ⟨idx, l, v, gs, stv, gv, gvals, hF, hG, hgi, hvi, hll, hset⟩
    obtain ⟨G, rfl⟩ := hF.get
    clear hF
    have hgl := hG.gl
    have hil2 := (List.getElem?_eq_some_iff.1 hgi).1
    obtain ⟨gg, gcap, gcur, rfl, hggB, hggc, hggn, hggs, hgcv⟩ := own_open1 hG.og (by omega)
    have hov := hG.each idx l v hgi hvi
    have LT901 := lt_of hggc
    refine WP.region ?_
    refine RL.val rfl (ex_move (by conv => lhs; whnf)) ?_
    refine RL.val rfl (ex_move (by conv => lhs; whnf)) ?_
    refine RL.val rfl (ex_move (by conv => lhs; whnf)) ?_
    refine RL.val rfl (ex_move (by conv => lhs; whnf)) ?_
    refine RL.val rfl (ex_ix1 (by conv => lhs; whnf) (by conv => lhs; whnf) Ybaf.sl76 Ybaf.sz46 rfl (by omega)) ?_
    refine RL.val rfl (ex_load (by conv => lhs; whnf) Ybaf.sc46 (cellOf hggc (hgcv idx v hvi))) ?_
    refine RL.val rfl (ex_move (by conv => lhs; whnf)) ?_
    refine RL.val rfl (ex_buildSlice1 (by conv => lhs; whnf) Ybaf.sl46 Ybaf.sz3 Ybaf.zo3 rfl rfl rfl (by first | (conv => lhs; simp only [sz_al, sz_sr, sz_dn]) | rfl)) ?_
    refine RL.append1at B1 rfl Ybaf.sl46 Ybaf.in3 rfl rfl rfl (by conv => lhs; whnf) (by conv => lhs; whnf) (hov.alloc _) (an' (by first | (simp only [sz_al, sz_sr, sz_dn]; done) | rfl | omega | (simp only [sz_al, sz_sr, sz_dn]; omega))) (by rfl) (by rfl) (by omega) (by have := hG.fr.size; rw [sz_al]; omega) ?_
    intro v' W4 hov4 hgr4 hv4 hat4
    obtain ⟨g4, c4, rfl⟩ := hv4
    have hgg4 := gka hgr4 hov hggc rfl
    have LT901 := lt_of hgg4
    refine RL.val rfl (ex_ix1 (by conv => lhs; whnf) (by conv => lhs; whnf) Ybaf.sl76 Ybaf.sz46 rfl (by omega)) ?_
    refine RL.unit (ex_store (by conv => lhs; whnf) (by conv => lhs; whnf) Ybaf.sc46 rfl hgg4 (by simp; omega)) ?_
    refine RL.nil ?_
    have hG5 := hG.put hB1' hgi hvi hgr4 hov4 hat4 hgg4
    rw [hset] at hG5
    refine ⟨stv, .slice (some ⟨gg, 0, none⟩) (groups (L ++ [(r, s)])).length gcap, _, ⟨rfl, rfl, rfl, rfl, rfl, rfl, rfl, rfl, rfl, rfl, rfl, ?_, rfl, rfl, rfl, rfl, rfl, (by rw [hs']; rfl), trivial⟩, hG5⟩
    rw [← hset, List.length_set]
    rfl
  rintro F wg ⟨stv, gv, gvals, hF, hG⟩
  obtain ⟨G, rfl⟩ := hF.get
  clear hF
  have hfrg : Fr (fun _ => False) wr wg := hfrl.trans hG.fr (fun _ _ h => h)
  have hfwg : Fr (fun _ => False) w wg := hfwl.trans hG.fr (fun _ _ h => h)
  have hownG := hfrg.own hown (fun _ _ => id)
  have hinG : ∀ z, z ∈ prO → PrIn wg z := fun z hz => (hin z hz).keep (fun k c h => hfrg.keep h id)
  have h9g := hG.fr.keep h9l id
  have h5g := hG.fr.keep h5l id
  have hszg := hfrg.size
  have hgsl : (groups PL).length = (wsOf PL).length := by simp [groups]
  have hgl := hG.gl
  have hwl : (wsOf PL).length ≤ PL.length := ws_len
  have hsb : ∀ s, s ∈ wsOf PL → -1000 ≤ s ∧ s ≤ 1000 := fun s hs => by
    rw [hPLo] at hs
    obtain ⟨⟨r, s2⟩, hz, rfl⟩ := List.mem_map.1 (mem_wsOf.1 hs)
    obtain ⟨r2, hr2, hz2⟩ := List.mem_flatMap.1 hz
    obtain ⟨i2, hi2, e⟩ := List.mem_map.1 hz2
    cases e
    have h1 := val_lo htok (hRt _ hr2)
    have h2 := since_lo hx (valI t r)
    have h3 := since_hi hx (valI t r)
    have h4 := hold_lo (t := t) (r := r) hx
    have h5 : i2 < 16 := by have := List.mem_range.1 hi2; omega
    have h6 : 0 ≤ (i2 : Int) * x.e := Int.mul_nonneg (by omega) (by omega)
    have h7 : (i2 : Int) * x.e ≤ 16 * 8 := Int.mul_le_mul (by omega) e8 (by omega) (by omega)
    dsimp only
    omega
  obtain ⟨sta, stc, hstv, _⟩ := own_value hG.os
  subst hstv
  refine WP.seq ?_
  refine WP.region ?_
  refine RL.val rfl (ex_move (by conv => lhs; whnf)) ?_
  refine RL.val rfl (ex_len (by conv => lhs; whnf) Ybaf.sl58) ?_
  refine RL.val rfl (ex_move (by conv => lhs; whnf)) ?_
  refine RL.nil ?_
  refine WP.block ?_
  refine WP.loopk (fun mm F w4 => ∃ (j : Nat) (ovj : Value) (prN : List (Out × Value)), mm = (wsOf PL).length - j ∧ j ≤ (wsOf PL).length ∧ Has F [(0, .slice (some ⟨bT, 0, none⟩) T.length T.length), (1, .slice (some ⟨b, 0, none⟩) pr.length sc), (5, .pointer (some ⟨n0, 0, none⟩)), (7, ovj), (23, .slice (some ⟨b, 0, none⟩) pr.length sc), (24, .int .i64 (pr.length : Nat)), (25, .int .i64 (i : Nat)), (9, .pointer (some ⟨r0, 0, none⟩)), (15, gv), (130, .slice sta (wsOf PL).length stc), (131, .int .i64 ((wsOf PL).length : Nat)), (132, .int .i64 (j : Nat))] ∧ Fr (fun k => some k = ov.ownBlock) wg w4 ∧ w4.ownsRow (n0 + 1) 48 4 ovj (prO.length + j) ((prO ++ prN).flatMap outCells) ∧ prN.length = j ∧ prN.map (·.1) = ((wsOf PL).take j).map (outW x q.1 PL) ∧ (∀ z, z ∈ prN → PrIn wg z) ∧ ∀ kk, ovj.ownBlock = some kk → kk < wg.heap.size → some kk = ov.ownBlock) (wsOf PL).length
    ⟨0, ov, [], rfl, Nat.zero_le _, ⟨rfl, rfl, rfl, rfl, rfl, rfl, rfl, rfl, rfl, rfl, rfl, rfl, trivial⟩, Fr.refl wg, by simpa using hownG, rfl, rfl, (fun _ h => by cases h), (fun kk h _ => h.symm)⟩ ?_
  rintro mm F w4 ⟨j, ovj, prN, rfl, hj, hF, hf4, hownj, hpNl, hpNm, hpNi, hbk⟩ K2 hK2
  obtain ⟨G, rfl⟩ := hF.get
  clear hF
  refine WP.seq ?_
  refine WP.region ?_
  refine RL.val rfl (ex_lss (by conv => lhs; whnf) (by conv => lhs; whnf)) ?_
  refine RL.nil ?_
  refine WP.seq ?_
  refine WP.cond _ (by conv => lhs; whnf) (fun hlt2 => ?_) (fun hlt2 => ?_)
  rotate_left
  · have hjk : j = (wsOf PL).length := by have := of_decide_eq_false hlt2; omega
    refine WP.exit ?_
    repeat (first | refine thenQ_exit ?_ | refine blockQ_hit ?_ | refine blockQ_miss rfl ?_)
    have hkp : ∀ (k : Nat) (c : Array Value), wg.heap[k]? = some (Obj.cells c 3 (0, 0)) → w4.heap[k]? = some (Obj.cells c 3 (0, 0)) := fun k c h => hf4.keep h (own_ne hownG h rfl)
    refine ⟨ovj, prO ++ prN, ⟨rfl, rfl, rfl, rfl, rfl, rfl, rfl, trivial⟩, hfwg.trans hf4 (fun k hk h => ?_), ?_, hf4.keep h5g (own_ne hownG h5g rfl), ?_, ?_, ?_⟩
    · have := (hownG.lt k h.symm).1
      omega
    · have := hf4.size
      omega
    · rw [List.length_append, hpNl]; exact hownj
    · rw [List.map_append, hprO, houts, hpNm, hjk, List.take_length]
      rfl
    · intro z hz
      rcases List.mem_append.1 hz with h | h
      · exact (hinG z h).keep hkp
      · exact (hpNi z h).keep hkp
  have hjk : j < (wsOf PL).length := by have := of_decide_eq_true hlt2; omega
  obtain ⟨s, hs'⟩ : ∃ s, (wsOf PL)[j]? = some s := ⟨_, List.getElem?_eq_getElem hjk⟩
  have hsm := List.mem_of_getElem? hs'
  have hsbs := hsb s hsm
  have hgpos := grp_some hsm
  obtain ⟨gvj, hgvj⟩ : ∃ v, gvals[j]? = some v := ⟨_, List.getElem?_eq_getElem (by omega)⟩
  have hgj : (groups PL)[j]? = some (grp PL s) := by simp only [groups, List.getElem?_map, hs', Option.map_some]
  have hgown := hG.each j _ gvj hgj hgvj
  obtain ⟨g3, cap3, cur3, he3, _⟩ := own_open1 hgown hgpos
  subst he3
  have hkp2 : ∀ (k : Nat) (c : Array Value) (T : Nat), Nat.beq T 48 = false → wg.heap[k]? = some (Obj.cells c T (0, 0)) → w4.heap[k]? = some (Obj.cells c T (0, 0)) := fun k c T hT h => hf4.keep h (own_ne hownG h hT)
  obtain ⟨g1, cap1, cur1, he1, _, hg1, _, _, hc1⟩ := own_open1 hG.os (by omega)
  cases he1
  obtain ⟨g2, cap2, cur2, he2, _, hg2, hn2, _, hc2⟩ := own_open1 hG.og (by omega)
  subst he2
  have hg1' := hkp2 _ _ _ rfl hg1
  have hg2' := hkp2 _ _ _ rfl hg2
  have h5' := hkp2 _ _ _ rfl h5g
  have h9' : w4.heap[r0]? = some (.cells (pcRow q.1 q.2) 48 (0, 0)) := hf4.keep h9g (fun e => by
    have h1 := (hown.lt r0 e.symm).2
    omega)
  have hsz4 := hf4.size
  refine WP.skip ?_
  refine WP.seq ?_
  refine WP.block ?_
  refine WP.seq ?_
  have LT5 := lt_of h5'
  have LT9 := lt_of h9'
  have LT901 := lt_of hg1'
  have LT902 := lt_of hg2'
  have FRsz := Fr.size hf4
  refine WP.region ?_
  refine RL.val rfl (ex_move (by conv => lhs; whnf)) ?_
  refine RL.val rfl (ex_ix1 (by conv => lhs; whnf) (by conv => lhs; whnf) Ybaf.sl58 Ybaf.sz2 rfl (by omega)) ?_
  refine RL.val rfl (ex_load (by conv => lhs; whnf) Ybaf.sc2 (cellOf hg1' (hc1 j _ (by simp [i64s, hs']; rfl)))) ?_
  refine RL.val rfl (ex_assign (by conv => lhs; whnf)) ?_
  refine RL.val rfl (ex_assign (by conv => lhs; whnf)) ?_
  refine RL.nil ?_
  refine WP.draw [24, 25] (by kernel_rfl) ?_
  refine AE.take 0 rfl (by kernel_rfl) rfl (fun w' hw => ex_move (by conv => lhs; whnf)) (Ext.drew (Ext.refl _) 1) ?_
  refine AE.take 1 rfl (by kernel_rfl) rfl (fun w' hw => ex_fieldAddr (by conv => lhs; whnf) Ybaf.fo48_0) (Ext.drew (Ext.refl _) 1) ?_
  refine AE.take 2 rfl (by kernel_rfl) rfl (fun w' hw => ex_loadB (by conv => lhs; whnf) Ybaf.sc3 (hw.keep h9') (by conv => lhs; whnf)) (Ext.drew (Ext.refl _) 1) ?_
  refine AE.take 3 rfl (by kernel_rfl) rfl (fun w' hw => ex_move (by conv => lhs; whnf)) (Ext.drew (Ext.refl _) 1) ?_
  refine AE.take 4 rfl (by kernel_rfl) rfl (fun w' hw => ex_move (by conv => lhs; whnf)) (Ext.drew (Ext.refl _) 1) ?_
  refine AE.take 5 rfl (by kernel_rfl) rfl (fun w' hw => ex_ix1 (by conv => lhs; whnf) (by conv => lhs; whnf) Ybaf.sl76 Ybaf.sz46 rfl (by omega)) (Ext.drew (Ext.refl _) 1) ?_
  refine AE.take 6 rfl (by kernel_rfl) rfl (fun w' hw => ex_load (by conv => lhs; whnf) Ybaf.sc46 (cellOf (hw.keep hg2') (hc2 j _ hgvj))) (Ext.drew (Ext.refl _) 1) ?_
  refine AE.take 7 rfl (by kernel_rfl) rfl (fun w' hw => ex_move (by conv => lhs; whnf)) (Ext.drew (Ext.refl _) 1) ?_
  refine AE.take 8 rfl (by kernel_rfl) rfl (fun w' hw => ex_fieldAddr (by conv => lhs; whnf) Ybaf.fo48_2) (Ext.drew (Ext.refl _) 1) ?_
  refine AE.take 9 rfl (by kernel_rfl) rfl (fun w' hw => ex_loadB (by conv => lhs; whnf) Ybaf.sc2 (hw.keep h9') (by conv => lhs; whnf)) (Ext.drew (Ext.refl _) 1) ?_
  refine AE.take 10 rfl (by kernel_rfl) rfl (fun w' hw => ex_fieldAddr (by conv => lhs; whnf) Ybaf.fo48_3) (Ext.drew (Ext.refl _) 1) ?_
  refine AE.take 11 rfl (by kernel_rfl) rfl (fun w' hw => ex_loadB (by conv => lhs; whnf) Ybaf.sc2 (hw.keep h9') (by conv => lhs; whnf)) (Ext.drew (Ext.refl _) 1) ?_
  refine AE.take 13 rfl (by kernel_rfl) rfl (fun w' hw => ex_move (by conv => lhs; whnf)) (Ext.drew (Ext.refl _) 1) ?_
  refine AE.take 14 rfl (by kernel_rfl) rfl (fun w' hw => ex_fieldAddr (by conv => lhs; whnf) Ybaf.fo32_1) (Ext.drew (Ext.refl _) 1) ?_
  refine AE.take 15 rfl (by kernel_rfl) rfl (fun w' hw => ex_loadB (by conv => lhs; whnf) Ybaf.sc2 (hw.keep h5') (by conv => lhs; whnf)) (Ext.drew (Ext.refl _) 1) ?_
  refine AE.take 16 rfl (by kernel_rfl) rfl (fun w' hw => ex_add (c := s + x.p) (by conv => lhs; whnf) (by conv => lhs; whnf) (by rw [IntKind.wrap_i64]; omega)) (Ext.drew (Ext.refl _) 1) ?_
  refine AE.take 17 rfl (by kernel_rfl) rfl (fun w' hw => ex_fieldAddr (by conv => lhs; whnf) Ybaf.fo48_2) (Ext.drew (Ext.refl _) 1) ?_
  refine AE.take 18 rfl (by kernel_rfl) rfl (fun w' hw => ex_loadB (by conv => lhs; whnf) Ybaf.sc2 (hw.keep h9') (by conv => lhs; whnf)) (Ext.drew (Ext.refl _) 1) ?_
  refine AE.take 19 rfl (by kernel_rfl) rfl (fun w' hw => ex_fieldAddr (by conv => lhs; whnf) Ybaf.fo48_3) (Ext.drew (Ext.refl _) 1) ?_
  refine AE.take 20 rfl (by kernel_rfl) rfl (fun w' hw => ex_loadB (by conv => lhs; whnf) Ybaf.sc2 (hw.keep h9') (by conv => lhs; whnf)) (Ext.drew (Ext.refl _) 1) ?_
  refine AE.call 12 rfl (by kernel_rfl) rfl (ex_call3 rfl (by conv => lhs; whnf) (by conv => lhs; whnf) (by conv => lhs; whnf) Ybaf.fun20) clamp ?_
  rintro v w5 ⟨rfl, rfl⟩
  refine ⟨fun _ => (Ext.drew (Ext.refl _) 1), ?_⟩
  refine AE.call 21 rfl (by kernel_rfl) rfl (ex_call3 rfl (by conv => lhs; whnf) (by conv => lhs; whnf) (by conv => lhs; whnf) Ybaf.fun20) clamp ?_
  rintro v w5 ⟨rfl, rfl⟩
  refine ⟨fun _ => (Ext.drew (Ext.refl _) 1), ?_⟩
  refine AE.take 22 rfl (by kernel_rfl) rfl (fun w' hw => Ybaf.bl48_0_1_2_3 (by conv => lhs; whnf) rfl (by conv => lhs; whnf) rfl (by conv => lhs; whnf) rfl (by conv => lhs; whnf) rfl) (Ext.drew (Ext.refl _) 1) ?_
  refine AE.val 23 rfl (by kernel_rfl) rfl (ex_buildSlice1 (by conv => lhs; whnf) Ybaf.sl28 Ybaf.sz48 Ybaf.zo48 rfl rfl rfl (by first | (conv => lhs; simp only [sz_al, sz_sr, sz_dn]) | rfl)) (fun _ => (Ext.alloc (Ext.drew (Ext.refl _) 1) _)) ?_
  have hone := own_one hgown
  refine AE.append1at 24 (n0 + 1) rfl (by kernel_rfl) rfl Ybaf.sl28 Ybaf.in48 rfl rfl rfl (by conv => lhs; whnf) (by conv => lhs; whnf) (World.ownsRow.alloc (w := w4.drewN 1) hownj _) (an' (by first | (simp only [sz_al, sz_sr, sz_dn]; done) | rfl | omega | (simp only [sz_al, sz_sr, sz_dn]; omega))) (by rfl) (all4 hone) (by omega) (by simp only [sz_al, sz_sr, sz_dn]; omega) ?_
  intro ov2 w6 hown2 hgr hv2 hat
  refine ⟨fun h => absurd h (by decide), ?_⟩
  refine AE.val 25 rfl (by kernel_rfl) rfl (ex_assign (by conv => lhs; whnf)) (fun h => absurd h (by decide)) ?_
  refine AE.nil (by kernel_rfl) ?_
  refine WP.region ?_
  refine RL.val rfl (ex_add (c := ((j + 1 : Nat) : Int)) (by conv => lhs; whnf) (by conv => lhs; whnf) (by rw [IntKind.wrap_i64]; omega)) ?_
  refine RL.val rfl (ex_move (by conv => lhs; whnf)) ?_
  refine RL.nil ?_
  refine hK2 ((wsOf PL).length - (j + 1)) _ _ (by omega) ⟨j + 1, ov2, prN ++ [(outW x q.1 PL s, Value.slice (some ⟨g3, 0, none⟩) (grp PL s).length cap3)], rfl, by omega, ⟨rfl, rfl, rfl, rfl, rfl, rfl, rfl, rfl, rfl, rfl, rfl, rfl, trivial⟩, (Fr.growna (Fr.drew hf4 1) hgr (fun kk hkk hlt => hbk kk hkk hlt)), ?_, by simp [hpNl], ?_, ?_, ?_⟩
  · have e : (prO ++ (prN ++ [(outW x q.1 PL s, Value.slice (some ⟨g3, 0, none⟩) (grp PL s).length cap3)])).flatMap outCells = (prO ++ prN).flatMap outCells ++ outCells (outW x q.1 PL s, Value.slice (some ⟨g3, 0, none⟩) (grp PL s).length cap3) := by
      rw [← List.append_assoc, List.flatMap_append]; simp
    rw [e]
    exact hown2
  · rw [List.map_append, hpNm, take_snoc hs', List.map_append]
    rfl
  · intro z hz
    rcases List.mem_append.1 hz with h | h
    · exact hpNi z h
    · have e : z = (outW x q.1 PL s, Value.slice (some ⟨g3, 0, none⟩) (grp PL s).length cap3) := by simpa using h
      subst e
      exact PrIn.of hgown rfl hgpos rfl
  · intro kk hkk hlt
    rcases hat with h | h
    · exact hbk kk (h ▸ hkk) hlt
    · rw [h] at hkk
      simp only [Option.some.injEq, sz_al, sz_sr, sz_dn] at hkk
      omega
end Go.Proofs.YbulknocFmt
