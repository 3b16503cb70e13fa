/- The law Limits, walked. -/
import Derived.Test.YbulknocFmtErr
namespace Go.Proofs.YbulknocFmt
open Go Go.Eng Go.RowKit
set_option linter.unusedSimpArgs false
set_option linter.unusedVariables false

def rowsN (L : List Out) : Nat := (L.map fun q => q.rows.length).sum
theorem rowsN_outs (x : Win) (T : List Tab) : ∀ S : List Pc, rowsN (outs x T S) = tot x T S
  | [] => rfl
  | p :: S => by
    have ih := rowsN_outs x T S
    have h1 : ((outOf x p (plP x T p)).map fun q => q.rows.length).sum = (plP x T p).length := by
      rw [← sizes_sum (plP x T p)]
      unfold outOf sizes groups
      rw [List.map_map, List.map_map]
      rfl
    unfold rowsN outs tot at ih ⊢
    rw [List.flatMap_cons, List.map_append, List.sum_append, List.map_cons, List.sum_cons, h1]
    omega
theorem rowsN_snoc {L : List Out} {i : Nat} {q : Out} (h : L[i]? = some q) : rowsN (L.take (i + 1)) = rowsN (L.take i) + q.rows.length := map_take_snoc _ h
theorem rowsN_le (L : List Out) (i : Nat) : rowsN (L.take i) ≤ rowsN L := sum_map_take_le _ L i

set_option maxRecDepth 100000 in
set_option maxHeartbeats 4000000 in
theorem lawLimits {w : World} {B : Nat} {ta na sa : Option Addr} {tc nc sc : Nat} {TS : List Tms} {NS : List Nls} {SS : List Src} {e p rl tl rd : Nat} {o : Int} (hB : B = w.heap.size) (ht : TimesAt w B ta TS) (hn : NullsAt w B na NS) (hs : SrcsAt w B sa SS) (he : e < 256) (hp : p < 256) (ho1 : -128 ≤ o) (ho2 : o ≤ 127) (hrl : rl < 256) (htl : tl < 256) (hrd : rd < 256) :
    Calls Ybaf.prog 4 #[.slice ta TS.length tc, .slice na NS.length nc, .slice sa SS.length sc, .int .u8 (e : Nat), .int .u8 (p : Nat), .int .i8 o, .int .u8 (rl : Nat), .int .u8 (tl : Nat), .int .u8 (rd : Nat)] w fun e w' => ∃ r, e = .returned r ∧ (r = .bool true ∧ Fr (fun k => B ≤ k) w w') := by
  have hfr0 : Fr (fun _ => False) w w := Fr.refl w
  refine calls_of Ybaf.func4 rfl rfl ?_
  refine WP.seq ?_
  have FRsz := Fr.size hfr0
  refine WP.region ?_
  refine RL.val rfl (ex_assign (by conv => lhs; whnf)) ?_
  refine RL.nil ?_
  refine WP.seq ?_
  refine WP.seq ?_
  refine WP.region ?_
  refine RL.val rfl (ex_move (by conv => lhs; whnf)) ?_
  refine RL.val rfl (ex_move (by conv => lhs; whnf)) ?_
  refine RL.call rfl (ex_call2 rfl (by conv => lhs; whnf) (by conv => lhs; whnf) Ybaf.fun5) (tooBig ht hs) ?_
  rintro v w1 ⟨(rfl | ⟨rfl, hT, hS, hTl, hSl⟩), hf1⟩
  · refine RL.nil ?_
    refine WP.cond_true rfl ?_
    refine WP.seq ?_
    refine WP.region ?_
    refine RL.val rfl (ex_assign (by conv => lhs; whnf)) ?_
    refine RL.nil ?_
    refine WP.ret ?_
    repeat (first | refine thenQ_ret ?_ | refine blockQ_ret ?_)
    exact bodyQ_tmp rfl ⟨rfl, Fr.up hf1⟩
  refine RL.nil ?_
  refine WP.cond_false rfl ?_
  refine WP.skip ?_
  have hf1B : Fr (fun k => B ≤ k) w w1 := Fr.up hf1
  obtain ⟨B1, hB1⟩ : ∃ B1, B1 = w1.heap.size := ⟨_, rfl⟩
  have hBB : B ≤ B1 := by have := hf1.size; omega
  have ht1' : TimesAt w1 B1 ta TS := (ht.keep hf1B).up hBB
  have hn1' : NullsAt w1 B1 na NS := (hn.keep hf1B).up hBB
  have hs1' : SrcsAt w1 B1 sa SS := (hs.keep hf1B).up hBB
  refine WP.seq ?_
  refine WP.region ?_
  refine RL.val rfl (ex_move (by conv => lhs; whnf)) ?_
  refine RL.val rfl (ex_move (by conv => lhs; whnf)) ?_
  refine RL.val rfl (ex_move (by conv => lhs; whnf)) ?_
  refine RL.call rfl (ex_call3 rfl (by conv => lhs; whnf) (by conv => lhs; whnf) (by conv => lhs; whnf) Ybaf.fun6) (build hB1 ht1' hn1' hs1' hT hS hTl hSl) ?_
  rintro v w2 ⟨sv, pr0, Bs, rfl, hto, hf2, hBs, hsv0, hsv1⟩
  obtain ⟨T, S, pr, hTT, hSO, hpr, htabs, hsrc⟩ := built ht1' hS hTl hSl hto hsv0 hsv1
  have hx := winOf_ok (e := e) (p := p) ho1 ho2
  obtain ⟨x, hxe⟩ : ∃ x, x = winOf e p o := ⟨_, rfl⟩
  rw [← hxe] at hx
  refine RL.val rfl (ex_move (by conv => lhs; whnf)) ?_
  refine RL.val rfl (ex_extract (by conv => lhs; whnf) rfl) ?_
  refine RL.val rfl (ex_extract (by conv => lhs; whnf) rfl) ?_
  refine RL.val rfl (ex_assign (by conv => lhs; whnf)) ?_
  refine RL.val rfl (ex_assign (by conv => lhs; whnf)) ?_
  refine RL.nil ?_
  refine WP.seqc (fun F w4 => ∃ b21, Has F [(6, .int .u8 (rl : Nat)), (7, .int .u8 (tl : Nat)), (8, .int .u8 (rd : Nat)), (19, .slice (some ⟨B1, 0, none⟩) TS.length TS.length), (20, sv), (21, .pointer (some ⟨b21, 0, none⟩))] ∧ w4.heap[b21]? = some (.cells (winRow x) 32 (0, 0)) ∧ Fr (fun _ => False) w2 w4) ?_ ?_
  · refine WP.region ?_
    refine RL.val rfl (ex_move (by conv => lhs; whnf)) ?_
    refine RL.val rfl (ex_move (by conv => lhs; whnf)) ?_
    refine RL.val rfl (ex_move (by conv => lhs; whnf)) ?_
    refine RL.call rfl (ex_call3 rfl (by conv => lhs; whnf) (by conv => lhs; whnf) (by conv => lhs; whnf) Ybaf.fun7) (mkWin he hp ho1 ho2) ?_
    rintro v w3 ⟨rfl, hf3⟩
    rw [hxe]
    have FRsz := Fr.size hf3
    refine RL.val rfl (ex_alloc Ybaf.zo32 (by first | (conv => lhs; simp only [sz_al, sz_sr, sz_dn]) | rfl)) ?_
    refine RL.unit (ex_storeW (by conv => lhs; whnf) (by conv => lhs; whnf) Ybaf.ag32 (an' (by first | (simp only [sz_al, sz_sr, sz_dn]; done) | rfl | omega | (simp only [sz_al, sz_sr, sz_dn]; omega))) (by rfl) (by rfl) (by rfl)) ?_
    refine RL.nil ?_
    exact ⟨_, ⟨rfl, rfl, rfl, rfl, rfl, rfl, trivial⟩, (sr_eq (an' (by first | (simp only [sz_al, sz_sr, sz_dn]; done) | rfl | omega | (simp only [sz_al, sz_sr, sz_dn]; omega)))), (Fr.set (Fr.alloc hf3 _) _ _ (fun hh => by first | exact rfl | exact .inl rfl | exact .inr (.inl rfl) | exact .inr (.inr rfl) | ((try simp only [sz_al, sz_sr, sz_dn] at hh); (try simp only [sz_al, sz_sr, sz_dn]); (first | omega | (dsimp only; omega) | exact .inl rfl | exact .inr (.inl rfl)))))⟩
  rintro F w4 ⟨b21, hF, h21, hf4⟩
  obtain ⟨G, rfl⟩ := hF.get
  clear hF
  have hsz4 := hf4.size
  have htabs4 : TabsAt w4 w4.heap.size (.slice (some ⟨B1, 0, none⟩) TS.length TS.length) T := (htabs.keep (Fr.up hf4)).up hsz4
  have hsrc4 : SrcV w4 w4.heap.size sv pr := (hsrc.keep (Fr.up hf4)).up hsz4
  have htakb := hSO.tak_b
  have htotb := hSO.tot_b hx
  have houtt := outs_tot x T S
  have hrN := rowsN_outs x T S
  refine WP.seqc (fun F w5 => ∃ pv, Has F [(6, .int .u8 (rl : Nat)), (7, .int .u8 (tl : Nat)), (8, .int .u8 (rd : Nat)), (19, .slice (some ⟨B1, 0, none⟩) TS.length TS.length), (20, sv), (21, .pointer (some ⟨b21, 0, none⟩)), (22, pv)] ∧ PiecesAt w5 pv (outs x T S) ∧ Fr (fun _ => False) w4 w5) ?_ ?_
  · have LT21 := lt_of h21
    refine WP.region ?_
    refine RL.val rfl (ex_move (by conv => lhs; whnf)) ?_
    refine RL.val rfl (ex_move (by conv => lhs; whnf)) ?_
    refine RL.val rfl (ex_loadW (by conv => lhs; whnf) h21 Ybaf.ag32 (by rfl)) ?_
    refine RL.call rfl (ex_call3 rfl (by conv => lhs; whnf) (by conv => lhs; whnf) (by rfl) Ybaf.fun10) (model (x := x) hx hSO hpr htabs4 hsrc4) ?_
    rintro v w5 ⟨hP, hf5⟩
    refine RL.val rfl (ex_assign (by conv => lhs; whnf)) ?_
    refine RL.nil ?_
    exact ⟨_, ⟨rfl, rfl, rfl, rfl, rfl, rfl, rfl, trivial⟩, hP, hf5⟩
  rintro F w5 ⟨pv, hF, hP, hf5⟩
  obtain ⟨G, rfl⟩ := hF.get
  clear hF
  have hsz5 := hf5.size
  have htabs5 : TabsAt w5 w5.heap.size (.slice (some ⟨B1, 0, none⟩) TS.length TS.length) T := (htabs4.keep (Fr.up hf5)).up hsz5
  have hsrc5 : SrcV w5 w5.heap.size sv pr := (hsrc4.keep (Fr.up hf5)).up hsz5
  have h21_5 := hf5.keep h21 id
  obtain ⟨sa5, sc5, hsv, hsrcC⟩ := hsrc5.ex
  subst hsv
  have hlen : pr.length = S.length := by rw [← hpr, List.length_map]
  have hSn := hSO.n
  refine WP.seq ?_
  refine WP.region ?_
  refine RL.val rfl (ex_assign (by conv => lhs; whnf)) ?_
  refine RL.nil ?_
  refine WP.seqc (fun F w6 => Has F [(6, .int .u8 (rl : Nat)), (7, .int .u8 (tl : Nat)), (8, .int .u8 (rd : Nat)), (19, .slice (some ⟨B1, 0, none⟩) TS.length TS.length), (20, .slice sa5 pr.length sc5), (21, .pointer (some ⟨b21, 0, none⟩)), (22, pv), (23, .int .i64 ((tak T S : Nat) : Int))] ∧ Fr (fun _ => False) w5 w6) ?_ ?_
  · --
    refine WP.seq ?_
    refine WP.region ?_
    refine RL.val rfl (ex_move (by conv => lhs; whnf)) ?_
    refine RL.val rfl (ex_len (by conv => lhs; whnf) Ybaf.sl28) ?_
    refine RL.val rfl (ex_move (by conv => lhs; whnf)) ?_
    refine RL.nil ?_
    refine WP.block ?_
    refine WP.loopk (fun m F w6 => ∃ i : Nat, m = pr.length - i ∧ i ≤ pr.length ∧ Has F [(6, .int .u8 (rl : Nat)), (7, .int .u8 (tl : Nat)), (8, .int .u8 (rd : Nat)), (19, .slice (some ⟨B1, 0, none⟩) TS.length TS.length), (20, .slice sa5 pr.length sc5), (21, .pointer (some ⟨b21, 0, none⟩)), (22, pv), (23, .int .i64 ((tak T (S.take i) : Nat) : Int)), (55, .slice sa5 pr.length sc5), (56, .int .i64 (pr.length : Nat)), (57, .int .i64 (i : Nat))] ∧ Fr (fun _ => False) w5 w6) pr.length
      ⟨0, rfl, Nat.zero_le _, ⟨rfl, rfl, rfl, rfl, rfl, rfl, rfl, rfl, rfl, rfl, rfl, trivial⟩, Fr.refl w5⟩ ?_
    rintro m F w6 ⟨i, rfl, hi, hF, hf6⟩ K hK
    obtain ⟨G, rfl⟩ := hF.get
    clear hF
    refine WP.seq ?_
    have FRsz := Fr.size hf6
    refine WP.region ?_
    refine RL.val rfl (ex_lss (by conv => lhs; whnf) (by conv => lhs; whnf)) ?_
    refine RL.nil ?_
    refine WP.seq ?_
    refine WP.cond _ (by conv => lhs; whnf) (fun hlt1 => ?_) (fun hlt1 => ?_)
    rotate_left
    · have hik : i = S.length := by have := of_decide_eq_false hlt1; omega
      refine WP.exit ?_
      repeat (first | refine thenQ_exit ?_ | refine blockQ_hit ?_ | refine blockQ_miss rfl ?_)
      refine ⟨⟨rfl, rfl, rfl, rfl, rfl, rfl, rfl, ?_, trivial⟩, hf6⟩
      rw [hik, List.take_length]
      rfl
    have hik : i < pr.length := by have := of_decide_eq_true hlt1; omega
    obtain ⟨q, hq⟩ : ∃ q, pr[i]? = some q := ⟨_, List.getElem?_eq_getElem hik⟩
    have hSi : S[i]? = some q.1 := by rw [← hpr, List.getElem?_map, hq]; rfl
    have hqS := List.mem_of_getElem? hSi
    have htil := hSO.ti _ hqS
    obtain ⟨t, hti⟩ : ∃ t, T[q.1.ti]? = some t := ⟨_, List.getElem?_eq_getElem htil⟩
    obtain ⟨b, c, rfl, hbB, hb5, hrow, hrv⟩ := hsrcC i q hq
    have hb := hf6.keep hb5 id
    have htk := tak_snoc (T := T) hSi
    have htl' := tak_le T S (i + 1)
    obtain ⟨bT, cT, hTV, hbT, hcT5, hcell⟩ := htabs5.ex
    simp only [Value.slice.injEq, Option.some.injEq, Addr.mk.injEq] at hTV
    obtain ⟨⟨hbb, _⟩, _⟩ := hTV
    subst hbb
    obtain ⟨bt, bc, hbt, htab⟩ := hcell q.1.ti t hti
    have hcT := hf6.keep hcT5 id
    have hbtr := hf6.keep htab.row id
    refine WP.skip ?_
    refine WP.seqc (fun F w7 => Has F [(6, .int .u8 (rl : Nat)), (7, .int .u8 (tl : Nat)), (8, .int .u8 (rd : Nat)), (19, .slice (some ⟨B1, 0, none⟩) TS.length TS.length), (20, .slice (some ⟨b, 0, none⟩) pr.length sc5), (21, .pointer (some ⟨b21, 0, none⟩)), (22, pv), (23, .int .i64 ((tak T (S.take (i + 1)) : Nat) : Int)), (55, .slice (some ⟨b, 0, none⟩) pr.length sc5), (56, .int .i64 (pr.length : Nat)), (57, .int .i64 (i : Nat))] ∧ Fr (fun _ => False) w5 w7) ?_ ?_
    rotate_left
    · rintro F w7 ⟨hF, hf7⟩
      obtain ⟨G, rfl⟩ := hF.get
      clear hF
      refine WP.region ?_
      refine RL.val rfl (ex_add (c := ((i + 1 : Nat) : Int)) (by conv => lhs; whnf) (by conv => lhs; whnf) (by rw [IntKind.wrap_i64]; omega)) ?_
      refine RL.val rfl (ex_move (by conv => lhs; whnf)) ?_
      refine RL.nil ?_
      exact hK (pr.length - (i + 1)) _ _ (by omega) ⟨i + 1, rfl, by omega, ⟨rfl, rfl, rfl, rfl, rfl, rfl, rfl, rfl, rfl, rfl, rfl, trivial⟩, hf7⟩
    refine WP.block ?_
    refine WP.seq ?_
    have LT900 := lt_of hcT
    have LT904 := lt_of hbtr
    have FRsz := Fr.size hf6
    refine WP.region ?_
    refine RL.val rfl (ex_ix0 (by conv => lhs; whnf) (by conv => lhs; whnf) Ybaf.sl28 Ybaf.sz48 rfl (by omega)) ?_
    refine RL.val rfl (ex_loadR (by conv => lhs; whnf) hb Ybaf.ag48 rfl hrow) ?_
    refine RL.val rfl (ex_alloc Ybaf.zo48 (by first | (conv => lhs; simp only [sz_al, sz_sr, sz_dn]) | rfl)) ?_
    refine RL.unit (ex_storeW (vs := (pcCells q).toArray) (by conv => lhs; whnf) (by rfl) Ybaf.ag48 (an' (by first | (simp only [sz_al, sz_sr, sz_dn]; done) | rfl | omega | (simp only [sz_al, sz_sr, sz_dn]; omega))) (by rfl) (by rfl) (all4 (rowsV_one hrv).1)) ?_
    refine RL.nil ?_
    refine WP.seq ?_
    rcases hrv.or with ⟨hn1, hn2⟩ | ⟨l, br, oo, c', cap', hn1, hn2, _, _, _⟩
    · refine WP.region ?_
      refine RL.val rfl (ex_fieldAddr (by conv => lhs; whnf) Ybaf.fo48_1) ?_
      refine RL.val rfl (ex_loadB (v := .slice none 0 0) (by conv => lhs; whnf) Ybaf.sc46 (sr_eq (an' (by first | (simp only [sz_al, sz_sr, sz_dn]; done) | rfl | omega | (simp only [sz_al, sz_sr, sz_dn]; omega)))) (by show some q.2 = _; rw [hn2])) ?_
      refine RL.val rfl (ex_eql_nilslice (by conv => lhs; whnf) (by conv => lhs; whnf) Ybaf.sl46) ?_
      refine RL.nil ?_
      refine WP.cond_true rfl ?_
      have hR : (rowsOf T q.1).length = t.vals.length := by rw [rowsOf, hn1]; simp [hti]
      refine WP.region ?_
      refine RL.val rfl (ex_move (by conv => lhs; whnf)) ?_
      refine RL.val rfl (ex_move (by conv => lhs; whnf)) ?_
      refine RL.val rfl (ex_fieldAddr (by conv => lhs; whnf) Ybaf.fo48_0) ?_
      refine RL.val rfl (ex_loadB (v := .int .i64 (q.1.ti : Nat)) (by conv => lhs; whnf) Ybaf.sc3 (sr_eq (an' (by first | (simp only [sz_al, sz_sr, sz_dn]; done) | rfl | omega | (simp only [sz_al, sz_sr, sz_dn]; omega)))) (by rfl)) ?_
      refine RL.val rfl (ex_ix1 (by conv => lhs; whnf) (by conv => lhs; whnf) Ybaf.sl27 Ybaf.sz52 rfl (by omega)) ?_
      refine RL.val rfl (ex_load (by conv => lhs; whnf) Ybaf.sc52 (cellOf (sr_ne (al hcT) (by (try simp only [sz_al, sz_sr, sz_dn]); omega)) hbt)) ?_
      refine RL.val rfl (ex_nilCheck (by conv => lhs; whnf)) ?_
      refine RL.val rfl (ex_fieldAddr (by conv => lhs; whnf) Ybaf.fo51_1) ?_
      refine RL.val rfl (ex_loadB (by conv => lhs; whnf) Ybaf.sc3 (sr_ne (al hbtr) (by (try simp only [sz_al, sz_sr, sz_dn]); omega)) (by conv => lhs; whnf)) ?_
      refine RL.val rfl (ex_add (c := ((tak T (S.take (i + 1)) : Nat) : Int)) (by conv => lhs; whnf) (by conv => lhs; whnf) (by rw [IntKind.wrap_i64]; omega)) ?_
      refine RL.val rfl (ex_assign (by conv => lhs; whnf)) ?_
      refine RL.nil ?_
      exact ⟨⟨rfl, rfl, rfl, rfl, rfl, rfl, rfl, rfl, rfl, rfl, rfl, trivial⟩, (Fr.set (Fr.alloc hf6 _) _ _ (fun hh => by first | exact rfl | exact .inl rfl | exact .inr (.inl rfl) | exact .inr (.inr rfl) | ((try simp only [sz_al, sz_sr, sz_dn] at hh); (try simp only [sz_al, sz_sr, sz_dn]); (first | omega | (dsimp only; omega) | exact .inl rfl | exact .inr (.inl rfl)))))⟩
    · refine WP.region ?_
      refine RL.val rfl (ex_fieldAddr (by conv => lhs; whnf) Ybaf.fo48_1) ?_
      refine RL.val rfl (ex_loadB (v := .slice (some ⟨br, oo, none⟩) l.length cap') (by conv => lhs; whnf) Ybaf.sc46 (sr_eq (an' (by first | (simp only [sz_al, sz_sr, sz_dn]; done) | rfl | omega | (simp only [sz_al, sz_sr, sz_dn]; omega)))) (by show some q.2 = _; rw [hn2])) ?_
      refine RL.val rfl (ex_eql_nilslice (by conv => lhs; whnf) (by conv => lhs; whnf) Ybaf.sl46) ?_
      refine RL.nil ?_
      refine WP.cond_false rfl ?_
      have hR : (rowsOf T q.1).length = l.length := by rw [rowsOf, hn1]
      refine WP.region ?_
      refine RL.val rfl (ex_move (by conv => lhs; whnf)) ?_
      refine RL.val rfl (ex_fieldAddr (by conv => lhs; whnf) Ybaf.fo48_1) ?_
      refine RL.val rfl (ex_loadB (v := .slice (some ⟨br, oo, none⟩) l.length cap') (by conv => lhs; whnf) Ybaf.sc46 (sr_eq (an' (by first | (simp only [sz_al, sz_sr, sz_dn]; done) | rfl | omega | (simp only [sz_al, sz_sr, sz_dn]; omega)))) (by show some q.2 = _; rw [hn2])) ?_
      refine RL.val rfl (ex_len (by conv => lhs; whnf) Ybaf.sl46) ?_
      refine RL.val rfl (ex_add (c := ((tak T (S.take (i + 1)) : Nat) : Int)) (by conv => lhs; whnf) (by conv => lhs; whnf) (by rw [IntKind.wrap_i64]; omega)) ?_
      refine RL.val rfl (ex_assign (by conv => lhs; whnf)) ?_
      refine RL.nil ?_
      exact ⟨⟨rfl, rfl, rfl, rfl, rfl, rfl, rfl, rfl, rfl, rfl, rfl, trivial⟩, (Fr.set (Fr.alloc hf6 _) _ _ (fun hh => by first | exact rfl | exact .inl rfl | exact .inr (.inl rfl) | exact .inr (.inr rfl) | ((try simp only [sz_al, sz_sr, sz_dn] at hh); (try simp only [sz_al, sz_sr, sz_dn]); (first | omega | (dsimp only; omega) | exact .inl rfl | exact .inr (.inl rfl)))))⟩
  rintro F w6 ⟨hF, hf6⟩
  obtain ⟨G, rfl⟩ := hF.get
  clear hF
  have hP6 := hP.keep hf6
  obtain ⟨pa, pcap, hpv, hpc⟩ := hP6.ex
  subst hpv
  have hOb : (outs x T S).length ≤ 1048576 := by omega
  refine WP.seq ?_
  refine WP.region ?_
  refine RL.val rfl (ex_assign (by conv => lhs; whnf)) ?_
  refine RL.nil ?_
  refine WP.seqc (fun F w7 => Has F [(6, .int .u8 (rl : Nat)), (7, .int .u8 (tl : Nat)), (8, .int .u8 (rd : Nat)), (19, .slice (some ⟨B1, 0, none⟩) TS.length TS.length), (20, .slice sa5 pr.length sc5), (21, .pointer (some ⟨b21, 0, none⟩)), (22, .slice pa (outs x T S).length pcap), (23, .int .i64 ((tak T S : Nat) : Int)), (26, .int .i64 ((tot x T S : Nat) : Int))] ∧ Fr (fun _ => False) w6 w7) ?_ ?_
  · --
    refine WP.seq ?_
    refine WP.region ?_
    refine RL.val rfl (ex_move (by conv => lhs; whnf)) ?_
    refine RL.val rfl (ex_len (by conv => lhs; whnf) Ybaf.sl28) ?_
    refine RL.val rfl (ex_move (by conv => lhs; whnf)) ?_
    refine RL.nil ?_
    refine WP.block ?_
    refine WP.loopk (fun m F w7 => ∃ j : Nat, m = (outs x T S).length - j ∧ j ≤ (outs x T S).length ∧ Has F [(6, .int .u8 (rl : Nat)), (7, .int .u8 (tl : Nat)), (8, .int .u8 (rd : Nat)), (19, .slice (some ⟨B1, 0, none⟩) TS.length TS.length), (20, .slice sa5 pr.length sc5), (21, .pointer (some ⟨b21, 0, none⟩)), (22, .slice pa (outs x T S).length pcap), (23, .int .i64 ((tak T S : Nat) : Int)), (26, .int .i64 ((rowsN ((outs x T S).take j) : Nat) : Int)), (80, .slice pa (outs x T S).length pcap), (81, .int .i64 ((outs x T S).length : Nat)), (82, .int .i64 (j : Nat))] ∧ Fr (fun _ => False) w6 w7) (outs x T S).length
      ⟨0, rfl, Nat.zero_le _, ⟨rfl, rfl, rfl, rfl, rfl, rfl, rfl, rfl, rfl, rfl, rfl, rfl, trivial⟩, Fr.refl w6⟩ ?_
    rintro m F w7 ⟨j, rfl, hj, hF, hf7⟩ K hK
    obtain ⟨G, rfl⟩ := hF.get
    clear hF
    refine WP.seq ?_
    have FRsz := Fr.size hf7
    refine WP.region ?_
    refine RL.val rfl (ex_lss (by conv => lhs; whnf) (by conv => lhs; whnf)) ?_
    refine RL.nil ?_
    refine WP.seq ?_
    refine WP.cond _ (by conv => lhs; whnf) (fun hlt1 => ?_) (fun hlt1 => ?_)
    rotate_left
    · have hjk : j = (outs x T S).length := by have := of_decide_eq_false hlt1; omega
      refine WP.exit ?_
      repeat (first | refine thenQ_exit ?_ | refine blockQ_hit ?_ | refine blockQ_miss rfl ?_)
      refine ⟨⟨rfl, rfl, rfl, rfl, rfl, rfl, rfl, rfl, ?_, trivial⟩, hf7⟩
      rw [hjk, List.take_length, hrN]
      rfl
    have hjk : j < (outs x T S).length := by have := of_decide_eq_true hlt1; omega
    obtain ⟨q, hq⟩ : ∃ q, (outs x T S)[j]? = some q := ⟨_, List.getElem?_eq_getElem hjk⟩
    obtain ⟨b, oo, rv, hpa, c0, c1, c2, c3, hri⟩ := hpc j q hq
    subst hpa
    obtain ⟨ra, rcc, hrv2, _⟩ := hri.form
    subst hrv2
    have hrl1 : (ints q.rows).length = q.rows.length := by simp [ints]
    have hsn := rowsN_snoc hq
    have hrle := rowsN_le (outs x T S) (j + 1)
    refine WP.skip ?_
    refine WP.seq ?_
    refine WP.block ?_
    refine WP.seq ?_
    refine WP.region ?_
    refine RL.val rfl (ex_indexAddr (by conv => lhs; whnf) (by conv => lhs; whnf) Ybaf.sl28 Ybaf.sz48 rfl (by omega)) ?_
    refine RL.val rfl (ex_loadA (by conv => lhs; whnf) Ybaf.ag48 rfl (four_get (hf7.cell c0 id) (hf7.cell c1 id) (hf7.cell c2 id) (hf7.cell c3 id))) ?_
    refine RL.val rfl (ex_alloc Ybaf.zo48 (by first | (conv => lhs; simp only [sz_al, sz_sr, sz_dn]) | rfl)) ?_
    refine RL.unit (ex_storeW (by conv => lhs; whnf) (by conv => lhs; whnf) Ybaf.ag48 (an' (by first | (simp only [sz_al, sz_sr, sz_dn]; done) | rfl | omega | (simp only [sz_al, sz_sr, sz_dn]; omega))) rfl rfl rfl) ?_
    refine RL.nil ?_
    refine WP.region ?_
    refine RL.val rfl (ex_move (by conv => lhs; whnf)) ?_
    refine RL.val rfl (ex_fieldAddr (by conv => lhs; whnf) Ybaf.fo48_1) ?_
    refine RL.val rfl (ex_loadB (by conv => lhs; whnf) Ybaf.sc46 (sr_eq (an' (by first | (simp only [sz_al, sz_sr, sz_dn]; done) | rfl | omega | (simp only [sz_al, sz_sr, sz_dn]; omega)))) (by conv => lhs; whnf)) ?_
    refine RL.val rfl (ex_len (by conv => lhs; whnf) Ybaf.sl46) ?_
    refine RL.val rfl (ex_add (c := ((rowsN ((outs x T S).take (j + 1)) : Nat) : Int)) (by conv => lhs; whnf) (by conv => lhs; whnf) (by rw [IntKind.wrap_i64]; omega)) ?_
    refine RL.val rfl (ex_assign (by conv => lhs; whnf)) ?_
    refine RL.nil ?_
    refine WP.region ?_
    refine RL.val rfl (ex_add (c := ((j + 1 : Nat) : Int)) (by conv => lhs; whnf) (by conv => lhs; whnf) (by rw [IntKind.wrap_i64]; omega)) ?_
    refine RL.val rfl (ex_move (by conv => lhs; whnf)) ?_
    refine RL.nil ?_
    exact hK ((outs x T S).length - (j + 1)) _ _ (by omega) ⟨j + 1, rfl, by omega, ⟨rfl, rfl, rfl, rfl, rfl, rfl, rfl, rfl, rfl, rfl, rfl, rfl, trivial⟩, (Fr.set (Fr.alloc hf7 _) _ _ (fun hh => by first | exact rfl | exact .inl rfl | exact .inr (.inl rfl) | exact .inr (.inr rfl) | ((try simp only [sz_al, sz_sr, sz_dn] at hh); (try simp only [sz_al, sz_sr, sz_dn]); (first | omega | (dsimp only; omega) | exact .inl rfl | exact .inr (.inl rfl)))))⟩
  rintro F w7 ⟨hF, hf7⟩
  obtain ⟨G, rfl⟩ := hF.get
  clear hF
  obtain ⟨rlim, hrlim⟩ : ∃ rlim : Int, rlim = max ((rl : Nat) : Int) ((tak T S : Nat) : Int) := ⟨_, rfl⟩
  obtain ⟨tlim, htlim⟩ : ∃ tlim : Int, tlim = max ((tl : Nat) : Int) (min ((tak T S : Nat) : Int) ((rd : Nat) : Int)) := ⟨_, rfl⟩
  refine WP.seq ?_
  refine WP.region ?_
  refine RL.val rfl (ex_move (by conv => lhs; whnf)) ?_
  refine RL.val rfl (ex_convert (by conv => lhs; whnf) Ybaf.cv5_3 Ybaf.kd3 (wrap_i64 (by omega) (by omega))) ?_
  refine RL.val rfl (ex_move (by conv => lhs; whnf)) ?_
  refine RL.val rfl (ex_convert (by conv => lhs; whnf) Ybaf.cv5_3 Ybaf.kd3 (wrap_i64 (by omega) (by omega))) ?_
  refine RL.val rfl (ex_move (by conv => lhs; whnf)) ?_
  refine RL.val rfl (ex_convert (by conv => lhs; whnf) Ybaf.cv5_3 Ybaf.kd3 (wrap_i64 (by omega) (by omega))) ?_
  refine RL.val rfl (ex_assign (by conv => lhs; whnf)) ?_
  refine RL.val rfl (ex_assign (by conv => lhs; whnf)) ?_
  refine RL.val rfl (ex_assign (by conv => lhs; whnf)) ?_
  refine RL.nil ?_
  refine WP.seq ?_
  refine WP.region ?_
  refine RL.val rfl (ex_move (by conv => lhs; whnf)) ?_
  refine RL.val rfl (ex_move (by conv => lhs; whnf)) ?_
  refine RL.val rfl (ex_max (by conv => lhs; whnf) (by conv => lhs; whnf)) ?_
  refine RL.val rfl (ex_assign (by conv => lhs; whnf)) ?_
  refine RL.nil ?_
  refine WP.seq ?_
  refine WP.region ?_
  refine RL.val rfl (ex_move (by conv => lhs; whnf)) ?_
  refine RL.val rfl (ex_move (by conv => lhs; whnf)) ?_
  refine RL.val rfl (ex_move (by conv => lhs; whnf)) ?_
  refine RL.val rfl (ex_min (by conv => lhs; whnf) (by conv => lhs; whnf)) ?_
  refine RL.val rfl (ex_max (by conv => lhs; whnf) (by conv => lhs; whnf)) ?_
  refine RL.val rfl (ex_assign (by conv => lhs; whnf)) ?_
  refine RL.nil ?_
  refine WP.seqc (fun F w8 => w8 = w7 ∧ Has F [(19, .slice (some ⟨B1, 0, none⟩) TS.length TS.length), (20, .slice sa5 pr.length sc5), (21, .pointer (some ⟨b21, 0, none⟩)), (22, .slice pa (outs x T S).length pcap), (29, .int .i64 (rl : Nat)), (30, .int .i64 (tl : Nat)), (31, .int .i64 (rd : Nat)), (34, .bool (decide (rlim < (tot x T S : Nat) ∨ tlim < ((outs x T S).length : Nat))))]) ?_ ?_
  · --
    by_cases hb1 : max ((rl : Nat) : Int) ((tak T S : Nat) : Int) < ((tot x T S : Nat) : Int)
    · refine WP.region ?_
      refine RL.val rfl (ex_move (by conv => lhs; whnf)) ?_
      refine RL.val rfl (ex_move (by conv => lhs; whnf)) ?_
      refine RL.val rfl (ex_gtr (by conv => lhs; whnf) (by conv => lhs; whnf)) ?_
      refine RL.val rfl (ex_move (by conv => lhs; whnf)) ?_
      refine RL.skip (dj := 109) (b := true) rfl rfl (congrArg Value.bool (decide_eq_true hb1)) rfl ?_
      refine RL.skip (dj := 109) (b := true) rfl rfl (congrArg Value.bool (decide_eq_true hb1)) rfl ?_
      refine RL.skip (dj := 109) (b := true) rfl rfl (congrArg Value.bool (decide_eq_true hb1)) rfl ?_
      refine RL.skip (dj := 109) (b := true) rfl rfl (congrArg Value.bool (decide_eq_true hb1)) rfl ?_
      refine RL.val rfl (ex_pick_t (congrArg Value.bool (decide_eq_true hb1)) (by conv => lhs; whnf)) ?_
      refine RL.val rfl (ex_assign (by conv => lhs; whnf)) ?_
      refine RL.nil ?_
      exact ⟨rfl, rfl, rfl, rfl, rfl, rfl, rfl, rfl, (by rw [decide_eq_true (Or.inl (by omega))]; rfl), trivial⟩
    · refine WP.region ?_
      refine RL.val rfl (ex_move (by conv => lhs; whnf)) ?_
      refine RL.val rfl (ex_move (by conv => lhs; whnf)) ?_
      refine RL.val rfl (ex_gtr (by conv => lhs; whnf) (by conv => lhs; whnf)) ?_
      refine RL.val rfl (ex_move (by conv => lhs; whnf)) ?_
      refine RL.take (dj := 109) rfl (congrArg Value.bool (decide_eq_false hb1)) ?_
      refine RL.val rfl (ex_move (by conv => lhs; whnf)) ?_
      refine RL.take (dj := 109) rfl (congrArg Value.bool (decide_eq_false hb1)) ?_
      refine RL.val rfl (ex_len (by conv => lhs; whnf) Ybaf.sl28) ?_
      refine RL.take (dj := 109) rfl (congrArg Value.bool (decide_eq_false hb1)) ?_
      refine RL.val rfl (ex_move (by conv => lhs; whnf)) ?_
      refine RL.take (dj := 109) rfl (congrArg Value.bool (decide_eq_false hb1)) ?_
      refine RL.val rfl (ex_gtr (by conv => lhs; whnf) (by conv => lhs; whnf)) ?_
      refine RL.val rfl (ex_pick_f (congrArg Value.bool (decide_eq_false hb1)) (by conv => lhs; whnf)) ?_
      refine RL.val rfl (ex_assign (by conv => lhs; whnf)) ?_
      refine RL.nil ?_
      refine ⟨rfl, rfl, rfl, rfl, rfl, rfl, rfl, rfl, ?_, trivial⟩
      show Value.bool (decide _) = Value.bool (decide _)
      congr 1
      exact decide_eq_decide.2 (by omega)
  rintro F w8 ⟨rfl, hF⟩
  obtain ⟨G, rfl⟩ := hF.get
  clear hF
  have hf58 : Fr (fun _ => False) w5 w8 := hf6.trans hf7 (fun _ _ h => h)
  have hsz58 := hf58.size
  have htabs8 : TabsAt w8 w8.heap.size (.slice (some ⟨B1, 0, none⟩) TS.length TS.length) T := (htabs5.keep (Fr.up hf58)).up hsz58
  have hsrc8 : SrcV w8 w8.heap.size (.slice sa5 pr.length sc5) pr := (hsrc5.keep (Fr.up hf58)).up hsz58
  have h21_8 := hf58.keep h21_5 id
  have hP8 := hP6.keep hf7
  have hf08 : Fr (fun k => B ≤ k) w w8 := ((hf1B.trans hf2 (fun k _ h => by omega)).trans (hf4.trans hf5 (fun _ _ h => h)) (fun _ _ h => h.elim)).trans hf58 (fun _ _ h => h.elim)
  refine WP.seq ?_
  have LT21 := lt_of h21_8
  refine WP.region ?_
  refine RL.val rfl (ex_move (by conv => lhs; whnf)) ?_
  refine RL.val rfl (ex_move (by conv => lhs; whnf)) ?_
  refine RL.val rfl (ex_loadW (by conv => lhs; whnf) h21_8 Ybaf.ag32 (by rfl)) ?_
  refine RL.val rfl (ex_move (by conv => lhs; whnf)) ?_
  refine RL.val rfl (ex_move (by conv => lhs; whnf)) ?_
  refine RL.val rfl (ex_move (by conv => lhs; whnf)) ?_
  refine RL.val rfl (Ybaf.bl40_0_1 (by conv => lhs; whnf) rfl (by conv => lhs; whnf) rfl) ?_
  refine RL.call rfl (ex_call5 rfl (by conv => lhs; whnf) (by conv => lhs; whnf) (by rfl) (by conv => lhs; whnf) (by rfl) Ybaf.fun8) (cut (x := x) (read := ((rd : Nat) : Int)) (Rl := ((rl : Nat) : Int)) (Tl := ((tl : Nat) : Int)) hx hSO hpr htabs8 hsrc8 (by omega) (by omega) (by omega) (by omega) hrlim htlim (fun _ => errOk _)) ?_
  rintro v w9 (⟨hbad, ⟨et, eu, rfl⟩, hf9⟩ | ⟨hg1, hg2, ⟨bX, pv, rfl, hX, hP9⟩, hf9⟩)
  · --
    refine RL.val rfl (ex_move (by conv => lhs; whnf)) ?_
    refine RL.val rfl (ex_extract (by conv => lhs; whnf) rfl) ?_
    refine RL.val rfl (ex_extract (by conv => lhs; whnf) rfl) ?_
    refine RL.val rfl (ex_assign (by conv => lhs; whnf)) ?_
    refine RL.val rfl (ex_assign (by conv => lhs; whnf)) ?_
    refine RL.nil ?_
    refine WP.seq ?_
    refine WP.seq ?_
    refine WP.region ?_
    refine RL.val rfl (ex_move (by conv => lhs; whnf)) ?_
    refine RL.nil ?_
    refine WP.cond_true (by rw [decide_eq_true hbad]; rfl) ?_
    refine WP.seq ?_
    refine WP.region ?_
    refine RL.val rfl (ex_move (by conv => lhs; whnf)) ?_
    refine RL.val rfl (ex_neq_if_some (by conv => lhs; whnf) rfl Ybaf.if36) ?_
    refine RL.val rfl (ex_move (by conv => lhs; whnf)) ?_
    refine RL.take (dj := 129) rfl rfl ?_
    refine RL.val rfl (ex_move (by conv => lhs; whnf)) ?_
    refine RL.take (dj := 129) rfl rfl ?_
    refine RL.val rfl (ex_eql_nil (by conv => lhs; whnf) (by conv => lhs; whnf) Ybaf.pt34) ?_
    refine RL.val rfl (ex_pick_t rfl (by conv => lhs; whnf)) ?_
    refine RL.val rfl (ex_assign (by conv => lhs; whnf)) ?_
    refine RL.nil ?_
    refine WP.ret ?_
    repeat (first | refine thenQ_ret ?_ | refine blockQ_ret ?_)
    exact bodyQ_tmp rfl ⟨rfl, hf08.trans hf9 (fun _ _ h => h.elim)⟩
  · --
    refine RL.val rfl (ex_move (by conv => lhs; whnf)) ?_
    refine RL.val rfl (ex_extract (by conv => lhs; whnf) rfl) ?_
    refine RL.val rfl (ex_extract (by conv => lhs; whnf) rfl) ?_
    refine RL.val rfl (ex_assign (by conv => lhs; whnf)) ?_
    refine RL.val rfl (ex_assign (by conv => lhs; whnf)) ?_
    refine RL.nil ?_
    refine WP.seq ?_
    refine WP.seq ?_
    refine WP.region ?_
    refine RL.val rfl (ex_move (by conv => lhs; whnf)) ?_
    refine RL.nil ?_
    refine WP.cond_false (by rw [decide_eq_false (by omega)]; rfl) ?_
    refine WP.skip ?_
    refine WP.seq ?_
    refine WP.seq ?_
    refine WP.region ?_
    refine RL.val rfl (ex_move (by conv => lhs; whnf)) ?_
    refine RL.val rfl (ex_neq_if_nil (by conv => lhs; whnf) rfl Ybaf.if36) ?_
    refine RL.val rfl (ex_move (by conv => lhs; whnf)) ?_
    refine RL.take (dj := 135) rfl rfl ?_
    refine RL.val rfl (ex_move (by conv => lhs; whnf)) ?_
    refine RL.take (dj := 135) rfl rfl ?_
    refine RL.val rfl (ex_eql_nil (by conv => lhs; whnf) (by conv => lhs; whnf) Ybaf.pt34) ?_
    refine RL.val rfl (ex_pick_f rfl (by conv => lhs; whnf)) ?_
    refine RL.nil ?_
    refine WP.cond_false rfl ?_
    refine WP.skip ?_
    refine WP.seq ?_
    have LT35 := lt_of hX
    refine WP.region ?_
    refine RL.val rfl (ex_move (by conv => lhs; whnf)) ?_
    refine RL.val rfl (ex_nilCheck (by conv => lhs; whnf)) ?_
    refine RL.val rfl (ex_fieldAddr (by conv => lhs; whnf) Ybaf.fo42_2) ?_
    refine RL.val rfl (ex_loadB (by conv => lhs; whnf) Ybaf.sc28 hX (by conv => lhs; whnf)) ?_
    refine RL.val rfl (ex_move (by conv => lhs; whnf)) ?_
    refine RL.call rfl (ex_call2 rfl (by conv => lhs; whnf) (by conv => lhs; whnf) Ybaf.fun9) (eqPieces hP9 (hP8.keep hf9) (by omega) (fun q hq => outs_rows hx hSO hq)) ?_
    rintro v w10 ⟨rfl, hf10⟩
    refine RL.val rfl (ex_assign (by conv => lhs; whnf)) ?_
    refine RL.nil ?_
    refine WP.ret ?_
    repeat (first | refine thenQ_ret ?_ | refine blockQ_ret ?_)
    exact bodyQ_tmp rfl ⟨rfl, (hf08.trans hf9 (fun _ _ h => h.elim)).trans hf10 (fun _ _ h => h.elim)⟩
end Go.Proofs.YbulknocFmt
