/- cut. -/
import Derived.Test.YbulknocFmtCutA
namespace Go.Proofs.YbulknocFmt
open Go Go.Eng Go.RowKit
set_option linter.unusedSimpArgs false
set_option linter.unusedVariables false

def E1 : ByteArray := ⟨(List.append [116, 104, 101, 32, 119, 105, 110, 100, 111, 119, 115, 32, 119, 111, 117, 108, 100, 32, 104, 111, 108, 100, 32, 109, 111, 114, 101, 32, 116, 104, 97, 110, 32, 37, 100, 32, 114, 101, 99, 111, 114, 100, 115, 59, 32, 97, 32, 108, 111, 110, 103, 101, 114, 32] [101, 118, 101, 114, 121, 44, 32, 97, 32, 115, 104, 111, 114, 116, 101, 114, 32, 112, 101, 114, 105, 111, 100, 32, 111, 114, 32, 97, 32, 115, 104, 111, 114, 116, 101, 114, 32, 114, 97, 110, 103, 101, 32, 103, 105, 118, 101, 115, 32, 102, 101, 119, 101, 114]).toArray⟩
def E2 : ByteArray := ⟨(List.append [116, 104, 101, 32, 119, 105, 110, 100, 111, 119, 115, 32, 119, 111, 117, 108, 100, 32, 109, 97, 107, 101, 32, 109, 111, 114, 101, 32, 116, 104, 97, 110, 32, 37, 100, 32, 116, 97, 98, 108, 101, 115, 59, 32, 97, 32, 108, 111, 110, 103, 101, 114, 32] [101, 118, 101, 114, 121, 44, 32, 97, 32, 115, 104, 111, 114, 116, 101, 114, 32, 112, 101, 114, 105, 111, 100, 32, 111, 114, 32, 97, 32, 115, 104, 111, 114, 116, 101, 114, 32, 114, 97, 110, 103, 101, 32, 109, 97, 107, 101, 115, 32, 102, 101, 119, 101, 114]).toArray⟩
/-- fmt.Errorf gives an error that is not nil. -/
def ErrOk (w : World) : Prop := ∀ (w1 : World) (b : Nat) (lim : Int) (str : ByteArray), (str = E1 ∨ str = E2) → 0 ≤ lim → lim ≤ 9223372036854775807 → Fr (fun k => w.heap.size ≤ k) w w1 → w1.heap[b]? = some (.cells #[.iface 3 (.int .i64 lim)] 20 (0, 0)) →
  Calls Ybaf.prog 15 #[.string str, .slice (some ⟨b, 0, none⟩) 1 1] w1 fun e w' => ∃ v, e = .returned v ∧ ((∃ t u, v = .iface t u) ∧ Fr (fun _ => False) w1 w')
theorem Ybaf.pl3 : plainT Ybaf.prog 3 = true := by kernel_rfl

theorem Marks.keep {Ds : List Nat} {w w' : World} {S : Nat → Prop} (h : Marks Ds w) (hf : Fr S w w') (hn : ∀ D, D ∈ Ds → ¬ S D) : Marks Ds w' := ⟨h.nd, fun D hD => hf.keep (h.at_ D hD) (hn D hD)⟩
theorem Marks.push {Ds : List Nat} {w : World} {D B : Nat} (h : Marks Ds w) (hD : w.heap[D]? = some (.deferred (some []))) (hB : B ≤ D) (hl : ∀ D', D' ∈ Ds → D' < B) : Marks (D :: Ds) w :=
  ⟨List.nodup_cons.2 ⟨fun hm => by have := hl D hm; omega, h.nd⟩, fun D' h' => by rcases List.mem_cons.1 h' with rfl | h'; exact hD; exact h.at_ D' h'⟩
theorem Marks.its {Ds : List Nat} {w w' : World} {B : Nat} (h : Marks Ds w) (hf : Fr (fun k => k ∈ Ds) w w') (hB : ∀ D, D ∈ Ds → B ≤ D) : ItS B w w' := hf.mono (fun k _ hk => ⟨hB k hk, _, h.at_ k hk, rfl⟩)

set_option maxRecDepth 100000 in
set_option maxHeartbeats 4000000 in
theorem cut {w : World} {T : List Tab} {S : List Pc} {pr : List (Pc × Value)} {sv tv : Value} {x : Win} {read Rl Tl rlim tlim : Int} (hx : x.Ok) (hS : SOk T S) (hpr : pr.map (·.1) = S) (ht : TabsAt w w.heap.size tv T) (hs : SrcV w w.heap.size sv pr)
    (hR0 : 0 ≤ Rl) (hR1 : Rl ≤ 9223372036854775807) (hT0 : 0 ≤ Tl) (hT1 : Tl ≤ 9223372036854775807) (hrl : rlim = max Rl (tak T S : Nat)) (htl : tlim = max Tl (min ((tak T S : Nat) : Int) read)) (hE : (rlim < (tot x T S : Nat) ∨ tlim < ((outs x T S).length : Nat)) → ErrOk w) :
    Calls Ybaf.prog 8 #[tv, sv, .agg (winRow x), .int .i64 read, .agg #[.int .i64 Rl, .int .i64 Tl]] w fun e w' => ∃ v, e = .returned v ∧
      (((rlim < (tot x T S : Nat) ∨ tlim < ((outs x T S).length : Nat)) ∧ (∃ t u, v = .tuple #[.pointer none, .iface t u]) ∧ Fr (fun _ => False) w w') ∨
       (((tot x T S : Nat) : Int) ≤ rlim ∧ (((outs x T S).length : Nat) : Int) ≤ tlim ∧ (∃ bX pv, v = .tuple #[.pointer (some ⟨bX, 0, none⟩), .nilIface] ∧ w'.heap[bX]? = some (.cells #[tv, .int .i64 read, pv] 42 (0, 0)) ∧ PiecesAt w' pv (outs x T S)) ∧ Fr (fun _ => False) w w')) := by
  obtain ⟨n0, hn0⟩ : ∃ n0, n0 = w.heap.size := ⟨_, rfl⟩
  rw [← hn0] at ht hs
  have htakb := hS.tak_b
  have htotb := hS.tot_b hx
  obtain ⟨bT, cT, htv, hbT, hcT, hcell⟩ := ht.ex
  obtain ⟨sa, sc, hsv, hsrc⟩ := hs.ex
  subst htv
  subst hsv
  have hlen : pr.length = S.length := by rw [← hpr, List.length_map]
  have hSn := hS.n
  have hrl0 : ((tak T S : Nat) : Int) ≤ rlim := by omega
  have hrl1 : rlim ≤ 9223372036854775807 := by omega
  have htl0 : 0 ≤ tlim := by omega
  have htl1 : tlim ≤ 9223372036854775807 := by omega
  have hget : ∀ (i : Nat) q, pr[i]? = some q → S[i]? = some q.1 ∧ q.1 ∈ S ∧ ∃ t, T[q.1.ti]? = some t ∧ t.Ok := fun i q hq => by
    have h1 : S[i]? = some q.1 := by rw [← hpr, List.getElem?_map, hq]; rfl
    have h2 := List.mem_of_getElem? h1
    have h3 := hS.ti _ h2
    exact ⟨h1, h2, _, List.getElem?_eq_getElem h3, hS.tok _ (List.getElem_mem h3)⟩
  refine callsD_of Ybaf.func8 rfl rfl ?_
  refine WD.seqc (fun ds F w1 => ds = [] ∧ Has F [(0, .slice (some ⟨bT, 0, none⟩) T.length T.length), (1, .slice sa pr.length sc), (3, .int .i64 read), (7, .pointer (some ⟨n0, 0, none⟩)), (9, .pointer (some ⟨n0 + 1, 0, none⟩)), (10, .pointer (some ⟨n0 + 2, 0, none⟩)), (11, .pointer (some ⟨n0 + 3, 0, none⟩))] ∧ Fr (fun _ => False) w w1 ∧ w1.heap.size = n0 + 4 ∧ w1.heap[n0]? = some (.cells (winRow x) 32 (0, 0)) ∧ w1.heap[n0 + 1]? = some (.cells #[.int .i64 Rl, .int .i64 Tl] 40 (0, 0)) ∧ w1.heap[n0 + 2]? = some (.cells #[.pointer none] 34 (0, 0)) ∧ w1.heap[n0 + 3]? = some (.cells #[.nilIface] 36 (0, 0))) ?_ ?_
  · have hfr0 : Fr (fun _ => False) w w := Fr.refl w
    rw [hn0]
    have FRsz := Fr.size hfr0
    refine WD.region rfl ?_
    refine RL.val rfl (ex_box (by conv => lhs; whnf) (by first | (conv => lhs; simp only [sz_al, sz_sr, sz_dn]) | rfl)) ?_
    refine RL.val rfl (ex_box (by conv => lhs; whnf) (by first | (conv => lhs; simp only [sz_al, sz_sr, sz_dn]) | rfl)) ?_
    refine RL.val rfl (ex_alloc Ybaf.zo34 (by first | (conv => lhs; simp only [sz_al, sz_sr, sz_dn]) | rfl)) ?_
    refine RL.val rfl (ex_alloc Ybaf.zo36 (by first | (conv => lhs; simp only [sz_al, sz_sr, sz_dn]) | rfl)) ?_
    refine RL.nil ?_
    exact ⟨rfl, ⟨rfl, rfl, rfl, rfl, rfl, rfl, rfl, trivial⟩, (Fr.alloc (Fr.alloc (Fr.alloc (Fr.alloc hfr0 _) _) _) _), by simp only [sz_al], (al (al (al (an' (by first | (simp only [sz_al, sz_sr, sz_dn]; done) | rfl | omega | (simp only [sz_al, sz_sr, sz_dn]; omega)))))), (al (al (an' (by first | (simp only [sz_al, sz_sr, sz_dn]; done) | rfl | omega | (simp only [sz_al, sz_sr, sz_dn]; omega))))), (al (an' (by first | (simp only [sz_al, sz_sr, sz_dn]; done) | rfl | omega | (simp only [sz_al, sz_sr, sz_dn]; omega)))), (an' (by first | (simp only [sz_al, sz_sr, sz_dn]; done) | rfl | omega | (simp only [sz_al, sz_sr, sz_dn]; omega)))⟩
  rintro ds F w1 ⟨rfl, hF, hf1, hsz1, h7, h9, h10, h11⟩
  obtain ⟨G, rfl⟩ := hF.get
  clear hF
  refine WD.seq ?_
  refine WD.region rfl ?_
  refine RL.val rfl (ex_assign (by conv => lhs; whnf)) ?_
  refine RL.nil ?_
  refine WD.seqc (fun ds F w2 => ds = [] ∧ Has F [(0, .slice (some ⟨bT, 0, none⟩) T.length T.length), (1, .slice sa pr.length sc), (3, .int .i64 read), (7, .pointer (some ⟨n0, 0, none⟩)), (9, .pointer (some ⟨n0 + 1, 0, none⟩)), (10, .pointer (some ⟨n0 + 2, 0, none⟩)), (11, .pointer (some ⟨n0 + 3, 0, none⟩)), (12, .int .i64 ((tak T S : Nat) : Int))] ∧ Fr (fun _ => False) w1 w2) ?_ ?_
  · refine WD.seq ?_
    refine WD.region rfl ?_
    refine RL.val rfl (ex_move (by conv => lhs; whnf)) ?_
    refine RL.val rfl (ex_len (by conv => lhs; whnf) Ybaf.sl28) ?_
    refine RL.val rfl (ex_move (by conv => lhs; whnf)) ?_
    refine RL.nil ?_
    refine WD.block ?_
    refine WD.loopk (fun m ds F w2 => ∃ i : Nat, m = pr.length - i ∧ i ≤ pr.length ∧ ds = [] ∧ Has F [(0, .slice (some ⟨bT, 0, none⟩) T.length T.length), (1, .slice sa pr.length sc), (3, .int .i64 read), (7, .pointer (some ⟨n0, 0, none⟩)), (9, .pointer (some ⟨n0 + 1, 0, none⟩)), (10, .pointer (some ⟨n0 + 2, 0, none⟩)), (11, .pointer (some ⟨n0 + 3, 0, none⟩)), (12, .int .i64 ((tak T (S.take i) : Nat) : Int)), (26, .slice sa pr.length sc), (27, .int .i64 (pr.length : Nat)), (28, .int .i64 (i : Nat))] ∧ Fr (fun _ => False) w1 w2) pr.length
      ⟨0, rfl, Nat.zero_le _, rfl, ⟨rfl, rfl, rfl, rfl, rfl, rfl, rfl, rfl, rfl, rfl, rfl, trivial⟩, Fr.refl w1⟩ ?_
    rintro m ds F w2 ⟨i, rfl, hi, rfl, hF, hf2⟩ K hK
    obtain ⟨G, rfl⟩ := hF.get
    clear hF
    refine WD.seq ?_
    have FRsz := Fr.size hf2
    refine WD.region rfl ?_
    refine RL.val rfl (ex_lss (by conv => lhs; whnf) (by conv => lhs; whnf)) ?_
    refine RL.nil ?_
    refine WD.seq ?_
    refine WD.cond _ (by conv => lhs; whnf) (fun hlt1 => ?_) (fun hlt1 => ?_)
    rotate_left
    · have hik : i = S.length := by have := of_decide_eq_false hlt1; omega
      refine WD.exit ?_
      repeat (first | refine thenD_exit ?_ | refine blockD_hit ?_ | refine blockD_miss rfl ?_)
      refine ⟨rfl, ⟨rfl, rfl, rfl, rfl, rfl, rfl, rfl, ?_, trivial⟩, hf2⟩
      rw [hik, List.take_length]
      rfl
    have hik : i < pr.length := by have := of_decide_eq_true hlt1; omega
    obtain ⟨q, hq⟩ : ∃ q, pr[i]? = some q := ⟨_, List.getElem?_eq_getElem hik⟩
    obtain ⟨hSi, hqS, t, hti, htok⟩ := hget i q hq
    have hfB : Fr (fun k => n0 ≤ k) w w2 := Fr.up (hf1.trans hf2 (fun _ _ h => h))
    obtain ⟨_, _, hsv', hsrc'⟩ := (hs.keep hfB).ex
    cases hsv'
    obtain ⟨_, _, _, _, _, _, hrv0⟩ := hsrc i q hq
    obtain ⟨b, c, rfl, hbB, hb, hrow, hrv⟩ := hsrc' i q hq
    have htk := tak_snoc (T := T) hSi
    have htl' := tak_le T S (i + 1)
    refine WD.skip ?_
    refine WD.seq ?_
    refine WD.block ?_
    refine WD.seq ?_
    refine WD.region rfl ?_
    refine RL.val rfl (ex_ix0 (by conv => lhs; whnf) (by conv => lhs; whnf) Ybaf.sl28 Ybaf.sz48 rfl (by omega)) ?_
    refine RL.val rfl (ex_loadR (by conv => lhs; whnf) hb Ybaf.ag48 rfl hrow) ?_
    refine RL.val rfl (ex_alloc Ybaf.zo48 (by first | (conv => lhs; simp only [sz_al, sz_sr, sz_dn]) | rfl)) ?_
    refine RL.unit (ex_storeW (vs := (pcCells q).toArray) (by conv => lhs; whnf) (by rfl) Ybaf.ag48 (an' (by first | (simp only [sz_al, sz_sr, sz_dn]; done) | rfl | omega | (simp only [sz_al, sz_sr, sz_dn]; omega))) (by rfl) (by rfl) (all4 (rowsV_one hrv).1)) ?_
    refine RL.nil ?_
    refine WD.region rfl ?_
    refine RL.val rfl (ex_move (by conv => lhs; whnf)) ?_
    refine RL.val rfl (ex_loadW (by conv => lhs; whnf) (sr_eq (an' (by first | (simp only [sz_al, sz_sr, sz_dn]; done) | rfl | omega | (simp only [sz_al, sz_sr, sz_dn]; omega)))) Ybaf.ag48 (by rfl)) ?_
    refine RL.val rfl (ex_move (by conv => lhs; whnf)) ?_
    refine RL.call rfl (ex_call2 rfl (by rfl) (by conv => lhs; whnf) Ybaf.fun11) (size (p := q.1) (rv := q.2) (hrv0.keep (Fr.up ((hf1.trans (Fr.set (Fr.alloc hf2 _) _ _ (fun hh => by first | exact rfl | exact .inl rfl | exact .inr (.inl rfl) | exact .inr (.inr rfl) | ((try simp only [sz_al, sz_sr, sz_dn] at hh); (try simp only [sz_al, sz_sr, sz_dn]); (first | omega | (dsimp only; omega) | exact .inl rfl | exact .inr (.inl rfl))))) (fun _ _ h => h))))) (ht.keep (Fr.up ((hf1.trans (Fr.set (Fr.alloc hf2 _) _ _ (fun hh => by first | exact rfl | exact .inl rfl | exact .inr (.inl rfl) | exact .inr (.inr rfl) | ((try simp only [sz_al, sz_sr, sz_dn] at hh); (try simp only [sz_al, sz_sr, sz_dn]); (first | omega | (dsimp only; omega) | exact .inl rfl | exact .inr (.inl rfl))))) (fun _ _ h => h))))) hti) ?_
    rintro v w3 ⟨rfl, hf3⟩
    refine RL.val rfl (ex_add (c := ((tak T (S.take (i + 1)) : Nat) : Int)) (by conv => lhs; whnf) (by conv => lhs; whnf) (by rw [IntKind.wrap_i64]; omega)) ?_
    refine RL.val rfl (ex_assign (by conv => lhs; whnf)) ?_
    refine RL.nil ?_
    refine WD.region rfl ?_
    refine RL.val rfl (ex_add (c := ((i + 1 : Nat) : Int)) (by conv => lhs; whnf) (by conv => lhs; whnf) (by rw [IntKind.wrap_i64]; omega)) ?_
    refine RL.val rfl (ex_move (by conv => lhs; whnf)) ?_
    refine RL.nil ?_
    exact hK (pr.length - (i + 1)) _ _ _ (by omega) ⟨i + 1, rfl, by omega, rfl, ⟨rfl, rfl, rfl, rfl, rfl, rfl, rfl, rfl, rfl, rfl, rfl, trivial⟩, (Fr.trans (Fr.set (Fr.alloc hf2 _) _ _ (fun hh => by first | exact rfl | exact .inl rfl | exact .inr (.inl rfl) | exact .inr (.inr rfl) | ((try simp only [sz_al, sz_sr, sz_dn] at hh); (try simp only [sz_al, sz_sr, sz_dn]); (first | omega | (dsimp only; omega) | exact .inl rfl | exact .inr (.inl rfl))))) hf3 (fun _ _ h => h))⟩
  rintro ds F w2 ⟨rfl, hF, hf2⟩
  obtain ⟨G, rfl⟩ := hF.get
  clear hF
  have h7_2 := hf2.keep h7 id
  have h9_2 := hf2.keep h9 id
  have h10_2 := hf2.keep h10 id
  have h11_2 := hf2.keep h11 id
  have hfB2 : Fr (fun k => n0 ≤ k) w w2 := Fr.up (hf1.trans hf2 (fun _ _ h => h))
  have hsz2 := hf2.size
  refine WD.seqc (fun ds F w3 => ds = [] ∧ Has F [(0, .slice (some ⟨bT, 0, none⟩) T.length T.length), (1, .slice sa pr.length sc), (3, .int .i64 read), (7, .pointer (some ⟨n0, 0, none⟩)), (9, .pointer (some ⟨n0 + 1, 0, none⟩)), (10, .pointer (some ⟨n0 + 2, 0, none⟩)), (11, .pointer (some ⟨n0 + 3, 0, none⟩))] ∧ Fr (fun k => n0 ≤ k) w w3 ∧ n0 + 4 ≤ w3.heap.size ∧ w3.heap[n0]? = some (.cells (winRow x) 32 (0, 0)) ∧ w3.heap[n0 + 1]? = some (.cells #[.int .i64 rlim, .int .i64 tlim] 40 (0, 0)) ∧ w3.heap[n0 + 2]? = some (.cells #[.pointer none] 34 (0, 0)) ∧ w3.heap[n0 + 3]? = some (.cells #[.nilIface] 36 (0, 0))) ?_ ?_
  · have LT9 := lt_of h9_2
    have LT7 := lt_of h7_2
    have LT10 := lt_of h10_2
    have LT11 := lt_of h11_2
    have FRsz := Fr.size hfB2
    refine WD.region rfl ?_
    refine RL.val rfl (ex_fieldAddr (by conv => lhs; whnf) Ybaf.fo40_0) ?_
    refine RL.val rfl (ex_loadB (by conv => lhs; whnf) Ybaf.sc3 h9_2 (by conv => lhs; whnf)) ?_
    refine RL.val rfl (ex_move (by conv => lhs; whnf)) ?_
    refine RL.val rfl (ex_max (by conv => lhs; whnf) (by conv => lhs; whnf)) ?_
    refine RL.val rfl (ex_fieldAddr (by conv => lhs; whnf) Ybaf.fo40_1) ?_
    refine RL.val rfl (ex_loadB (by conv => lhs; whnf) Ybaf.sc3 h9_2 (by conv => lhs; whnf)) ?_
    refine RL.val rfl (ex_move (by conv => lhs; whnf)) ?_
    refine RL.val rfl (ex_move (by conv => lhs; whnf)) ?_
    refine RL.val rfl (ex_min (by conv => lhs; whnf) (by conv => lhs; whnf)) ?_
    refine RL.val rfl (ex_max (by conv => lhs; whnf) (by conv => lhs; whnf)) ?_
    refine RL.val rfl (ex_fieldAddr (by conv => lhs; whnf) Ybaf.fo40_0) ?_
    refine RL.unit (ex_store (by conv => lhs; whnf) (by conv => lhs; whnf) Ybaf.sc3 rfl h9_2 rfl) ?_
    refine RL.val rfl (ex_fieldAddr (by conv => lhs; whnf) Ybaf.fo40_1) ?_
    refine RL.unit (ex_store (by conv => lhs; whnf) (by conv => lhs; whnf) Ybaf.sc3 rfl (sr_eq h9_2) rfl) ?_
    refine RL.nil ?_
    exact ⟨rfl, ⟨rfl, rfl, rfl, rfl, rfl, rfl, rfl, trivial⟩, (Fr.set (Fr.set hfB2 _ _ (fun hh => by first | exact rfl | exact .inl rfl | exact .inr (.inl rfl) | exact .inr (.inr rfl) | ((try simp only [sz_al, sz_sr, sz_dn] at hh); (try simp only [sz_al, sz_sr, sz_dn]); (first | omega | (dsimp only; omega) | exact .inl rfl | exact .inr (.inl rfl))))) _ _ (fun hh => by first | exact rfl | exact .inl rfl | exact .inr (.inl rfl) | exact .inr (.inr rfl) | ((try simp only [sz_al, sz_sr, sz_dn] at hh); (try simp only [sz_al, sz_sr, sz_dn]); (first | omega | (dsimp only; omega) | exact .inl rfl | exact .inr (.inl rfl))))), by simp only [sz_sr]; omega, (sr_ne (sr_ne h7_2 (by first | exact ne_of_type h7_2 h9_2 rfl | omega)) (by first | exact ne_of_type h7_2 h9_2 rfl | omega)), by rw [hrl, htl]; exact (sr_eq (sr_eq h9_2)), (sr_ne (sr_ne h10_2 (by first | exact ne_of_type h10_2 h9_2 rfl | omega)) (by first | exact ne_of_type h10_2 h9_2 rfl | omega)), (sr_ne (sr_ne h11_2 (by first | exact ne_of_type h11_2 h9_2 rfl | omega)) (by first | exact ne_of_type h11_2 h9_2 rfl | omega))⟩
  rintro ds F w3 ⟨rfl, hF, hf3, hsz3, h7_3, h9_3, h10_3, h11_3⟩
  obtain ⟨G, rfl⟩ := hF.get
  clear hF
  obtain ⟨bP, hbP⟩ : ∃ bP, bP = w3.heap.size := ⟨_, rfl⟩
  have hfr3 : Fr (fun _ => False) w3 w3 := Fr.refl w3
  refine WD.seqc (fun ds F w4 => ds = [] ∧ Has F [(0, .slice (some ⟨bT, 0, none⟩) T.length T.length), (1, .slice sa pr.length sc), (3, .int .i64 read), (7, .pointer (some ⟨n0, 0, none⟩)), (9, .pointer (some ⟨n0 + 1, 0, none⟩)), (10, .pointer (some ⟨n0 + 2, 0, none⟩)), (11, .pointer (some ⟨n0 + 3, 0, none⟩)), (15, .pointer (some ⟨bP, 0, none⟩))] ∧ Fr (fun _ => False) w3 w4 ∧ w4.heap.size = bP + 1 ∧ w4.heap[bP]? = some (.cells #[.int .i64 0] 3 (0, 0))) ?_ ?_
  · have FRsz := Fr.size hfr3
    refine WD.region rfl ?_
    refine RL.val rfl (ex_alloc Ybaf.zo3 (q := bP) hbP.symm) ?_
    refine RL.unit (ex_store (by conv => lhs; whnf) (by conv => lhs; whnf) Ybaf.sc3 rfl (an' (by first | (simp only [sz_al, sz_sr, sz_dn]; done) | rfl | omega | (simp only [sz_al, sz_sr, sz_dn]; omega))) rfl) ?_
    refine RL.nil ?_
    exact ⟨rfl, ⟨rfl, rfl, rfl, rfl, rfl, rfl, rfl, rfl, trivial⟩, (Fr.set (Fr.alloc hfr3 _) _ _ (fun hh => by first | exact rfl | exact .inl rfl | exact .inr (.inl rfl) | exact .inr (.inr rfl) | ((try simp only [sz_al, sz_sr, sz_dn] at hh); (try simp only [sz_al, sz_sr, sz_dn]); (first | omega | (dsimp only; omega) | exact .inl rfl | exact .inr (.inl rfl))))), by simp only [sz_al, sz_sr]; omega, (sr_eq (an' (by first | (simp only [sz_al, sz_sr, sz_dn]; done) | rfl | omega | (simp only [sz_al, sz_sr, sz_dn]; omega))))⟩
  rintro ds F w4 ⟨rfl, hF, hf4, hsz4, h15_4⟩
  obtain ⟨G, rfl⟩ := hF.get
  clear hF
  have h7_4 := hf4.keep h7_3 id
  have h9_4 := hf4.keep h9_3 id
  have h10_4 := hf4.keep h10_3 id
  have h11_4 := hf4.keep h11_3 id
  have hfB4 : Fr (fun k => n0 ≤ k) w w4 := hf3.trans hf4 (fun _ _ h => h.elim)
  refine WD.seqc (fun ds F w5 => ∃ Ds : List Nat, ds = Ds.map Eng.mark ∧ Marks Ds w5 ∧ (∀ D, D ∈ Ds → bP < D) ∧ Has F [(0, .slice (some ⟨bT, 0, none⟩) T.length T.length), (1, .slice sa pr.length sc), (3, .int .i64 read), (7, .pointer (some ⟨n0, 0, none⟩)), (9, .pointer (some ⟨n0 + 1, 0, none⟩)), (10, .pointer (some ⟨n0 + 2, 0, none⟩)), (11, .pointer (some ⟨n0 + 3, 0, none⟩)), (15, .pointer (some ⟨bP, 0, none⟩))] ∧ Fr (fun k => k = bP) w4 w5 ∧ w5.heap[bP]? = some (.cells #[.int .i64 ((tot x T S : Nat) : Int)] 3 (0, 0)) ∧ ((tot x T S : Nat) : Int) ≤ rlim) ?_ ?_
  · --
    refine WD.seq ?_
    refine WD.region rfl ?_
    refine RL.val rfl (ex_move (by conv => lhs; whnf)) ?_
    refine RL.val rfl (ex_len (by conv => lhs; whnf) Ybaf.sl28) ?_
    refine RL.val rfl (ex_move (by conv => lhs; whnf)) ?_
    refine RL.nil ?_
    refine WD.block ?_
    refine WD.loopk (fun m ds F wr => ∃ (i : Nat) (Ds : List Nat), m = pr.length - i ∧ i ≤ pr.length ∧ ds = Ds.map Eng.mark ∧ Marks Ds wr ∧ (∀ D, D ∈ Ds → bP < D) ∧ Has F [(0, .slice (some ⟨bT, 0, none⟩) T.length T.length), (1, .slice sa pr.length sc), (3, .int .i64 read), (7, .pointer (some ⟨n0, 0, none⟩)), (9, .pointer (some ⟨n0 + 1, 0, none⟩)), (10, .pointer (some ⟨n0 + 2, 0, none⟩)), (11, .pointer (some ⟨n0 + 3, 0, none⟩)), (15, .pointer (some ⟨bP, 0, none⟩)), (50, .slice sa pr.length sc), (51, .int .i64 (pr.length : Nat)), (52, .int .i64 (i : Nat))] ∧ Fr (fun k => k = bP) w4 wr ∧ wr.heap[bP]? = some (.cells #[.int .i64 ((tot x T (S.take i) : Nat) : Int)] 3 (0, 0)) ∧ ((tot x T (S.take i) : Nat) : Int) ≤ rlim) pr.length
      ⟨0, [], rfl, Nat.zero_le _, rfl, ⟨List.nodup_nil, fun _ h => by cases h⟩, (fun _ h => by cases h), ⟨rfl, rfl, rfl, rfl, rfl, rfl, rfl, rfl, rfl, rfl, rfl, trivial⟩, Fr.refl w4, h15_4, by simp [tot]; omega⟩ ?_
    rintro m ds F wr ⟨i, Ds, rfl, hi, rfl, hmk, hDb', hF, hfr, h15, htl2⟩ K hK
    obtain ⟨G, rfl⟩ := hF.get
    clear hF
    refine WD.seq ?_
    refine WD.region rfl ?_
    refine RL.val rfl (ex_lss (by conv => lhs; whnf) (by conv => lhs; whnf)) ?_
    refine RL.nil ?_
    refine WD.seq ?_
    refine WD.cond _ (by conv => lhs; whnf) (fun hlt1 => ?_) (fun hlt1 => ?_)
    rotate_left
    · have hik : i = S.length := by have := of_decide_eq_false hlt1; omega
      refine WD.exit ?_
      repeat (first | refine thenD_exit ?_ | refine blockD_hit ?_ | refine blockD_miss rfl ?_)
      rw [hik, List.take_length] at h15 htl2
      exact ⟨Ds, rfl, hmk, hDb', ⟨rfl, rfl, rfl, rfl, rfl, rfl, rfl, rfl, trivial⟩, hfr, h15, htl2⟩
    have hik : i < pr.length := by have := of_decide_eq_true hlt1; omega
    obtain ⟨q, hq⟩ : ∃ q, pr[i]? = some q := ⟨_, List.getElem?_eq_getElem hik⟩
    obtain ⟨hSi, hqS, t, hti, htok⟩ := hget i q hq
    have hszr := hfr.size
    have hfB : Fr (fun k => n0 ≤ k) w wr := hfB4.trans hfr (fun k _ h => by omega)
    obtain ⟨bt, bc, hbt, htab⟩ := hcell q.1.ti t hti
    have htil : q.1.ti < T.length := hS.ti _ hqS
    obtain ⟨_, _, _, _, _, _, hrv0⟩ := hsrc i q hq
    obtain ⟨_, _, hsv', hsrc'⟩ := (hs.keep hfB).ex
    cases hsv'
    obtain ⟨b, c, rfl, hbB, hb, hrow, hrv⟩ := hsrc' i q hq
    obtain ⟨R, hR⟩ : ∃ R, R = rowsOf T q.1 := ⟨_, rfl⟩
    have hRl : R.length ≤ 256 := by rw [hR]; exact hS.len _ hqS
    have hRt : ∀ r, r ∈ R → r < t.vals.length := by rw [hR]; exact hS.lt _ t hqS hti
    have hplP : plP x T q.1 = plOf x t R := by rw [plP_some hti, hR]
    have htots := tot_snoc (x := x) (T := T) hSi
    rw [hplP] at htots
    have htotl := tot_le x T S (i + 1)
    obtain ⟨r0, hr0⟩ : ∃ r0, r0 = wr.heap.size := ⟨_, rfl⟩
    have hcTr := hfB.keep hcT (by omega)
    have hfrR : Fr (fun _ => False) wr wr := Fr.refl wr
    refine WD.skip ?_
    refine WD.seq ?_
    refine WD.block ?_
    refine WD.seq ?_
    have LT900 := lt_of hcTr
    have FRsz := Fr.size hfrR
    refine WD.region rfl ?_
    refine RL.val rfl (ex_ix0 (by conv => lhs; whnf) (by conv => lhs; whnf) Ybaf.sl28 Ybaf.sz48 rfl (by omega)) ?_
    refine RL.val rfl (ex_loadR (by conv => lhs; whnf) hb Ybaf.ag48 rfl hrow) ?_
    refine RL.val rfl (ex_alloc Ybaf.zo48 (by first | (conv => lhs; simp only [sz_al, sz_sr, sz_dn]) | rfl)) ?_
    refine RL.unit (ex_storeW (vs := (pcCells q).toArray) (by conv => lhs; whnf) (by rfl) Ybaf.ag48 (an' (by first | (simp only [sz_al, sz_sr, sz_dn]; done) | rfl | omega | (simp only [sz_al, sz_sr, sz_dn]; omega))) (by rfl) (by rfl) (all4 (rowsV_one hrv).1)) ?_
    refine RL.nil ?_
    refine WD.seq ?_
    refine WD.region rfl ?_
    refine RL.val rfl (ex_move (by conv => lhs; whnf)) ?_
    refine RL.val rfl (ex_fieldAddr (by conv => lhs; whnf) Ybaf.fo48_0) ?_
    refine RL.val rfl (ex_loadB (v := .int .i64 (q.1.ti : Nat)) (by conv => lhs; whnf) Ybaf.sc3 (sr_eq (an' (by first | (simp only [sz_al, sz_sr, sz_dn]; done) | rfl | omega | (simp only [sz_al, sz_sr, sz_dn]; omega)))) (by rfl)) ?_
    refine RL.val rfl (ex_ix1 (by conv => lhs; whnf) (by conv => lhs; whnf) Ybaf.sl27 Ybaf.sz52 rfl (by omega)) ?_
    refine RL.val rfl (ex_load (by conv => lhs; whnf) Ybaf.sc52 (cellOf (sr_ne (al hcTr) (by (try simp only [sz_al, sz_sr, sz_dn]); omega)) hbt)) ?_
    refine RL.call rfl (ex_call2 rfl (by conv => lhs; whnf) (by conv => lhs; whnf) Ybaf.fun12) (column (htab.keep (hfB.trans (Fr.set (Fr.alloc hfrR _) _ _ (fun hh => by first | exact rfl | exact .inl rfl | exact .inr (.inl rfl) | exact .inr (.inr rfl) | ((try simp only [sz_al, sz_sr, sz_dn] at hh); (try simp only [sz_al, sz_sr, sz_dn]); (first | omega | (dsimp only; omega) | exact .inl rfl | exact .inr (.inl rfl))))) (fun _ _ h => h.elim)))) ?_
    rintro v w5 ⟨rfl, rfl⟩
    refine RL.val rfl (ex_alloc Ybaf.zo66 (by first | (conv => lhs; simp only [sz_al, sz_sr, sz_dn]) | rfl)) ?_
    refine RL.unit (ex_store (by conv => lhs; whnf) (by conv => lhs; whnf) Ybaf.sc66 rfl (an' (by first | (simp only [sz_al, sz_sr, sz_dn]; done) | rfl | omega | (simp only [sz_al, sz_sr, sz_dn]; omega))) rfl) ?_
    refine RL.nil ?_
    refine WD.seqc (fun ds F w6 => ds = Ds.map Eng.mark ∧ Has F [(0, .slice (some ⟨bT, 0, none⟩) T.length T.length), (1, .slice (some ⟨b, 0, none⟩) pr.length sc), (3, .int .i64 read), (7, .pointer (some ⟨n0, 0, none⟩)), (9, .pointer (some ⟨n0 + 1, 0, none⟩)), (10, .pointer (some ⟨n0 + 2, 0, none⟩)), (11, .pointer (some ⟨n0 + 3, 0, none⟩)), (15, .pointer (some ⟨bP, 0, none⟩)), (18, .pointer (some ⟨r0 + 1, 0, none⟩)), (50, .slice (some ⟨b, 0, none⟩) pr.length sc), (51, .int .i64 (pr.length : Nat)), (52, .int .i64 (i : Nat)), (64, .func (.func 21) #[] #[.pointer (some ⟨r0 + 2, 0, none⟩), .pointer (some ⟨r0 + 3, 0, none⟩)])] ∧ Fr (fun _ => False) wr w6 ∧ w6.heap.size = r0 + 4 ∧ w6.heap[r0 + 1]? = some (.cells #[.pointer (some ⟨bc, 0, none⟩)] 66 (0, 0)) ∧ MfR n0 T q.1 (r0 + 2) (r0 + 3) q.2 (.slice (some ⟨bT, 0, none⟩) T.length T.length) w6) ?_ ?_
    · refine WD.region rfl ?_
      refine RL.val rfl (ex_loadW (by conv => lhs; whnf) (sr_ne (al (sr_eq (an' (by first | (simp only [sz_al, sz_sr, sz_dn]; done) | rfl | omega | (simp only [sz_al, sz_sr, sz_dn]; omega))))) (by (try simp only [sz_al, sz_sr, sz_dn]); omega)) Ybaf.ag48 (by rfl)) ?_
      refine RL.val rfl (ex_move (by conv => lhs; whnf)) ?_
      refine RL.call rfl (ex_call2 rfl (by rfl) (by conv => lhs; whnf) Ybaf.fun13) (rowsIn (p := q.1) (rv := q.2) rfl) ?_
      rintro v w6 ⟨rfl, hbp, hbq, hsz6, hf6⟩
      refine RL.nil ?_
      have hf06 : Fr (fun k => n0 ≤ k) w w6 := hfB.trans (Fr.trans (Fr.set (Fr.alloc (Fr.set (Fr.alloc hfrR _) _ _ (fun hh => by first | exact rfl | exact .inl rfl | exact .inr (.inl rfl) | exact .inr (.inr rfl) | ((try simp only [sz_al, sz_sr, sz_dn] at hh); (try simp only [sz_al, sz_sr, sz_dn]); (first | omega | (dsimp only; omega) | exact .inl rfl | exact .inr (.inl rfl))))) _) _ _ (fun hh => by first | exact rfl | exact .inl rfl | exact .inr (.inl rfl) | exact .inr (.inr rfl) | ((try simp only [sz_al, sz_sr, sz_dn] at hh); (try simp only [sz_al, sz_sr, sz_dn]); (first | omega | (dsimp only; omega) | exact .inl rfl | exact .inr (.inl rfl))))) hf6 (fun _ _ h => h)) (fun _ _ h => h.elim)
      simp only [sz_al, sz_sr, ← hr0] at hbp hbq hsz6
      exact ⟨rfl, ⟨rfl, rfl, rfl, rfl, rfl, rfl, rfl, rfl, (by rw [hr0]; rfl), rfl, rfl, rfl, (by simp only [sz_al, sz_sr, ← hr0]; rfl), trivial⟩, (Fr.trans (Fr.set (Fr.alloc (Fr.set (Fr.alloc hfrR _) _ _ (fun hh => by first | exact rfl | exact .inl rfl | exact .inr (.inl rfl) | exact .inr (.inr rfl) | ((try simp only [sz_al, sz_sr, sz_dn] at hh); (try simp only [sz_al, sz_sr, sz_dn]); (first | omega | (dsimp only; omega) | exact .inl rfl | exact .inr (.inl rfl))))) _) _ _ (fun hh => by first | exact rfl | exact .inl rfl | exact .inr (.inl rfl) | exact .inr (.inr rfl) | ((try simp only [sz_al, sz_sr, sz_dn] at hh); (try simp only [sz_al, sz_sr, sz_dn]); (first | omega | (dsimp only; omega) | exact .inl rfl | exact .inr (.inl rfl))))) hf6 (fun _ _ h => h)), hsz6, by rw [hr0]; exact (hf6.keep (sr_eq (an' (by first | (simp only [sz_al, sz_sr, sz_dn]; done) | rfl | omega | (simp only [sz_al, sz_sr, sz_dn]; omega)))) id), ⟨hbp, hbq, hrv0.keep hf06, ht.keep hf06⟩⟩
    rintro ds F w6 ⟨rfl, hF, hf6, hsz6, h18_6, hmf⟩
    obtain ⟨G, rfl⟩ := hF.get
    clear hF
    have hfB6 : Fr (fun k => n0 ≤ k) w w6 := hfB.trans hf6 (fun _ _ h => h.elim)
    have h7_6 := hf6.keep (hfr.keep h7_4 (by omega)) id
    have h9_6 := hf6.keep (hfr.keep h9_4 (by omega)) id
    have h10_6 := hf6.keep (hfr.keep h10_4 (by omega)) id
    have h11_6 := hf6.keep (hfr.keep h11_4 (by omega)) id
    have h15_6 := hf6.keep h15 id
    have hmk6 := Marks.keep hmk hf6 (fun _ _ => id)
    have hDs6 : ∀ D, D ∈ Ds → D < w6.heap.size := fun D hD => lt_of (hmk6.at_ D hD)
    have it := iterRows (B := n0) (bp := r0 + 2) (bq := r0 + 3) (rv := q.2) (tv := .slice (some ⟨bT, 0, none⟩) T.length T.length) hti (by rw [← hR]; omega)
    rw [← hR] at it
    refine WD.block ?_
    refine WD.range kap_nc (len := R.length) (enc := fun i => #[.int .i64 ((R.getD i 0 : Nat) : Int)]) (Mf := MfR n0 T q.1 (r0 + 2) (r0 + 3) q.2 (.slice (some ⟨bT, 0, none⟩) T.length T.length)) rfl Ybaf.fun21 it (fun _ _ => rfl) (fun _ _ => rfl)
      (fun k W => Fr (fun k => k = bP) w6 W ∧ W.heap[bP]? = some (.cells #[.int .i64 ((tot x T (S.take i) + offP x t R k : Nat) : Int)] 3 (0, 0)) ∧ ((tot x T (S.take i) + offP x t R k : Nat) : Int) ≤ rlim)
      (fun c W => c = .ret ∧ Fr (fun k => k = bP ∨ k = n0 + 2 ∨ k = n0 + 3) w6 W ∧ W.heap[n0 + 2]? = some (.cells #[.pointer none] 34 (0, 0)) ∧ (∃ t u, W.heap[n0 + 3]? = some (.cells #[.iface t u] 36 (0, 0))) ∧ rlim < (tot x T S : Nat))
      (fun k F' W => Has F' [(0, .slice (some ⟨bT, 0, none⟩) T.length T.length), (1, .slice (some ⟨b, 0, none⟩) pr.length sc), (3, .int .i64 read), (7, .pointer (some ⟨n0, 0, none⟩)), (9, .pointer (some ⟨n0 + 1, 0, none⟩)), (10, .pointer (some ⟨n0 + 2, 0, none⟩)), (11, .pointer (some ⟨n0 + 3, 0, none⟩)), (15, .pointer (some ⟨bP, 0, none⟩)), (18, .pointer (some ⟨r0 + 1, 0, none⟩)), (19, .int .i64 ((R.getD k 0 : Nat) : Int))] ∧ Fr (fun k => k = bP) w6 W ∧ W.heap[bP]? = some (.cells #[.int .i64 ((tot x T (S.take i) + offP x t R k : Nat) : Int)] 3 (0, 0)) ∧ ((tot x T (S.take i) + offP x t R k : Nat) : Int) ≤ rlim)
      (fun k W ⟨h, _⟩ => by
        have hb : Fr (fun k => n0 ≤ k) w6 W := h.mono (fun k _ h => by omega)
        exact ⟨h.keep hmf.pc (by omega), h.keep hmf.tb (by omega), hmf.rows.keep hb, hmf.tabs.keep hb⟩)
      (fun k W1 W2 ⟨h, h1, h2⟩ hs => ⟨hs.fr h (Nat.le_refl _), hs.cells h1, h2⟩)
      (fun c W1 W2 ⟨hc, h, h1, ⟨t, u, h2⟩, h3⟩ hs => ⟨hc, hs.fr h (Nat.le_refl _), hs.cells h1, ⟨t, u, hs.cells h2⟩, h3⟩)
      (fun k F' W1 W2 ⟨h0, h, h1, h2⟩ hs => ⟨h0, hs.fr h (Nat.le_refl _), hs.cells h1, h2⟩)
      ⟨Fr.refl w6, by rw [offP_zero]; exact h15_6, by rw [offP_zero]; exact htl2⟩ ?_ ?_ ?_ ?_
    · rintro l k W hk hl2 hI
      refine WD.region rfl ?_
      refine RL.val rfl (ex_assign (by conv => lhs; whnf)) ?_
      refine RL.nil ?_
      exact ⟨KO.refl _ _ _, ⟨rfl, rfl, rfl, rfl, rfl, rfl, rfl, rfl, rfl, rfl, trivial⟩, hI⟩
    · rintro l k F' W hk hl2 ⟨rr, hrr⟩ ⟨hF, hfW, h15W, hle⟩ dd
      obtain ⟨r, hr⟩ : ∃ r, R[k]? = some r := ⟨_, List.getElem?_eq_getElem hk⟩
      have hg : R.getD k 0 = r := by rw [List.getD_eq_getElem?_getD, hr]; rfl
      rw [hg] at hF
      obtain ⟨G, rfl⟩ := hF.get
      clear hF
      have hrl' := hRt r (List.mem_of_getElem? hr)
      have hfBW : Fr (fun k => n0 ≤ k) w W := hfB6.trans hfW (fun k _ h => by omega)
      have h7W := hfW.keep h7_6 (by omega)
      have h9W := hfW.keep h9_6 (by omega)
      have h10W := hfW.keep h10_6 (by omega)
      have h11W := hfW.keep h11_6 (by omega)
      have h18W := hfW.keep h18_6 (by omega)
      have hcolW : ColAt W n0 bc t := htab.col.keep hfBW
      obtain ⟨H, hH⟩ : ∃ H : Nat, H = (hold x t r).toNat := ⟨_, rfl⟩
      have hHb := hold_lo (t := t) (r := r) hx
      have hH' : hold x t r = (H : Int) := by omega
      have hos := offP_succ (x := x) (t := t) hr
      rw [← hH] at hos
      have hole : offP x t R (k + 1) ≤ (plOf x t R).length := by
        have e : plOf x t R = plOf x t (R.take (k + 1)) ++ plOf x t (R.drop (k + 1)) := by unfold plOf; rw [← List.flatMap_append, List.take_append_drop]
        unfold offP
        rw [e, List.length_append]
        omega
      refine WD.block ?_
      refine WD.seq ?_
      have LT7 := lt_of h7W
      have LT9 := lt_of h9W
      have LT10 := lt_of h10W
      have LT11 := lt_of h11W
      have LT15 := lt_of h15W
      have LT18 := lt_of h18W
      have FRsz := Fr.size hfW
      refine WD.region rfl ?_
      refine RL.val rfl (ex_loadW (by conv => lhs; whnf) h7W Ybaf.ag32 (by rfl)) ?_
      refine RL.val rfl (ex_loadB (by conv => lhs; whnf) Ybaf.sc66 h18W (by conv => lhs; whnf)) ?_
      refine RL.val rfl (ex_move (by conv => lhs; whnf)) ?_
      refine RL.call rfl (ex_call3 rfl (by rfl) (by conv => lhs; whnf) (by conv => lhs; whnf) Ybaf.fun14) (by have := holding (w := W) hcolW htok hx hrl'; rw [hH'] at this; exact this) ?_
      rintro v w7 ⟨rfl, hf7⟩
      refine RL.val rfl (ex_assign (by conv => lhs; whnf)) ?_
      refine RL.nil ?_
      refine WD.seq ?_
      refine WD.seq ?_
      refine WD.region rfl ?_
      refine RL.val rfl (ex_move (by conv => lhs; whnf)) ?_
      refine RL.val rfl (ex_fieldAddr (by conv => lhs; whnf) Ybaf.fo40_0) ?_
      refine RL.val rfl (ex_loadB (by conv => lhs; whnf) Ybaf.sc3 (hf7.keep h9W id) (by conv => lhs; whnf)) ?_
      refine RL.val rfl (ex_loadB (by conv => lhs; whnf) Ybaf.sc3 (hf7.keep h15W id) (by conv => lhs; whnf)) ?_
      refine RL.val rfl (ex_sub (c := rlim - ((tot x T (S.take i) + offP x t R k : Nat) : Int)) (by conv => lhs; whnf) (by conv => lhs; whnf) (by rw [IntKind.wrap_i64]; omega)) ?_
      refine RL.val rfl (ex_gtr (by conv => lhs; whnf) (by conv => lhs; whnf)) ?_
      refine RL.nil ?_
      refine WD.cond _ (by conv => lhs; whnf) (fun hlt2 => ?_) (fun hlt2 => ?_)
      · have hlt2 := of_decide_eq_true hlt2
        have hbad : rlim < (tot x T S : Nat) := by omega
        refine WD.seq ?_
        refine WD.region rfl ?_
        refine RL.val rfl (ex_fieldAddr (by conv => lhs; whnf) Ybaf.fo40_0) ?_
        refine RL.val rfl (ex_loadB (by conv => lhs; whnf) Ybaf.sc3 (hf7.keep h9W id) (by conv => lhs; whnf)) ?_
        refine RL.val rfl (ex_makeInterface (by conv => lhs; whnf) Ybaf.pl3) ?_
        refine RL.val rfl (ex_buildSlice1 (by conv => lhs; whnf) Ybaf.sl83 Ybaf.sz20 Ybaf.zo20 rfl rfl rfl (by first | (conv => lhs; simp only [sz_al, sz_sr, sz_dn]) | rfl)) ?_
        refine RL.call rfl (ex_call2 rfl (v0 := .string E1) (by rfl) (by conv => lhs; whnf) Ybaf.fun15) (hE (.inl hbad) _ _ rlim E1 (.inl rfl) (by omega) hrl1 (by rw [← hn0]; exact hfB6.trans (Fr.alloc (Fr.trans hfW hf7 (fun _ _ h => h.elim)) _) (fun k _ h => by omega)) (an' (by first | (simp only [sz_al, sz_sr, sz_dn]; done) | rfl | omega | (simp only [sz_al, sz_sr, sz_dn]; omega)))) ?_
        rintro v w8 ⟨⟨et, eu, rfl⟩, hf8⟩
        refine RL.unit (ex_store (by conv => lhs; whnf) (by conv => lhs; whnf) Ybaf.sc34 rfl (hf8.keep (al (hf7.keep h10W id)) id) rfl) ?_
        refine RL.unit (ex_store (by conv => lhs; whnf) (by conv => lhs; whnf) Ybaf.sc36 rfl (sr_ne (hf8.keep (al (hf7.keep h11W id)) id) (by first | exact ne_of_type h11W h10W rfl | omega)) rfl) ?_
        refine RL.nil ?_
        refine WD.ret ?_
        repeat (first | refine thenD_ret ?_ | refine blockD_ret ?_)
        exact ⟨(KO.set (KO.set (KO.fr (KO.alloc (KO.fr (KO.refl _ _ _) hf7) _) hf8) (hf8.keep (al (hf7.keep h10W id)) id) rfl) (sr_ne (hf8.keep (al (hf7.keep h11W id)) id) (by first | exact ne_of_type h11W h10W rfl | omega)) rfl), rfl, (Fr.set (Fr.set ((hfW.mono (fun k _ h => .inl h)).trans (Fr.trans ((hf7).alloc _) hf8 (fun _ _ h => h)) (fun _ _ h => h.elim) : Fr (fun k => k = bP ∨ k = n0 + 2 ∨ k = n0 + 3) w6 w8) _ _ (fun hh => by first | exact rfl | exact .inl rfl | exact .inr (.inl rfl) | exact .inr (.inr rfl) | ((try simp only [sz_al, sz_sr, sz_dn] at hh); (try simp only [sz_al, sz_sr, sz_dn]); (first | omega | (dsimp only; omega) | exact .inl rfl | exact .inr (.inl rfl))))) _ _ (fun hh => by first | exact rfl | exact .inl rfl | exact .inr (.inl rfl) | exact .inr (.inr rfl) | ((try simp only [sz_al, sz_sr, sz_dn] at hh); (try simp only [sz_al, sz_sr, sz_dn]); (first | omega | (dsimp only; omega) | exact .inl rfl | exact .inr (.inl rfl))))), (sr_ne (sr_eq (hf8.keep (al (hf7.keep h10W id)) id)) (by first | exact ne_of_type h10W h11W rfl | omega)), ⟨et, eu, (sr_eq (sr_ne (hf8.keep (al (hf7.keep h11W id)) id) (by first | exact ne_of_type h11W h10W rfl | omega)))⟩, hbad⟩
      have hlt2 := of_decide_eq_false hlt2
      refine WD.skip ?_
      refine WD.region rfl ?_
      refine RL.val rfl (ex_loadB (by conv => lhs; whnf) Ybaf.sc3 (hf7.keep h15W id) (by conv => lhs; whnf)) ?_
      refine RL.val rfl (ex_move (by conv => lhs; whnf)) ?_
      refine RL.val rfl (ex_add (c := ((tot x T (S.take i) + offP x t R (k + 1) : Nat) : Int)) (by conv => lhs; whnf) (by conv => lhs; whnf) (by rw [IntKind.wrap_i64]; omega)) ?_
      refine RL.unit (ex_store (by conv => lhs; whnf) (by conv => lhs; whnf) Ybaf.sc3 rfl (hf7.keep h15W id) rfl) ?_
      refine RL.nil ?_
      exact ⟨(KO.set (KO.fr (KO.refl _ _ _) hf7) (hf7.keep h15W id) rfl), (Fr.set (Fr.trans hfW hf7 (fun _ _ h => h.elim)) _ _ (fun hh => by first | exact rfl | exact .inl rfl | exact .inr (.inl rfl) | exact .inr (.inr rfl) | ((try simp only [sz_al, sz_sr, sz_dn] at hh); (try simp only [sz_al, sz_sr, sz_dn]); (first | omega | (dsimp only; omega) | exact .inl rfl | exact .inr (.inl rfl))))), (sr_eq (hf7.keep h15W id)), by omega⟩
    · rintro D W hD ⟨hfW, h15W, hle⟩ hDb
      rw [offP_end, ← htots] at h15W hle
      refine WD.region rfl ?_
      refine RL.val rfl (ex_add (c := ((i + 1 : Nat) : Int)) (by conv => lhs; whnf) (by conv => lhs; whnf) (by rw [IntKind.wrap_i64]; omega)) ?_
      refine RL.val rfl (ex_move (by conv => lhs; whnf)) ?_
      refine RL.nil ?_
      have hmkW := Marks.keep hmk6 hfW (fun D' hD' => by have := hDb; have := hmk6.at_ D' hD'; intro e; subst e; rw [h15_6] at this; cases this)
      exact hK (pr.length - (i + 1)) _ _ _ (by omega) ⟨i + 1, D :: Ds, rfl, by omega, rfl, Marks.push hmkW hDb hD hDs6, (fun D' h' => by rcases List.mem_cons.1 h' with rfl | h'; omega; exact hDb' D' h'), ⟨rfl, rfl, rfl, rfl, rfl, rfl, rfl, rfl, rfl, rfl, rfl, trivial⟩, (hfr.trans hf6 (fun _ _ h => h.elim)).trans hfW (fun _ _ h => h), h15W, hle⟩
    · rintro D c W hD ⟨rfl, hfW, hx10, ⟨et, eu, hx11⟩, hbad⟩ hDb
      refine WD.ret ?_
      repeat (first | refine thenD_ret ?_ | refine blockD_ret ?_)
      have hmkW := Marks.keep hmk6 hfW (fun D' hD' => by
        have h1 := hmk6.at_ D' hD'
        rintro (e | e | e) <;> subst e
        · rw [h15_6] at h1; cases h1
        · rw [h10_6] at h1; cases h1
        · rw [h11_6] at h1; cases h1)
      have hmk2 := Marks.push hmkW hDb hD hDs6
      refine ⟨D :: Ds, rfl, hmk2, fun wF hF => ?_⟩
      have hit : ItS n0 W wF := Marks.its hmk2 hF (fun D' h' => by rcases List.mem_cons.1 h' with rfl | h'; omega; have := hDb' D' h'; omega)
      refine ⟨_, results_cells2 rfl rfl rfl Ybaf.sc34 Ybaf.sc36 (hit.cells hx10) (hit.cells hx11), .inl ⟨.inl hbad, ⟨et, eu, rfl⟩, ?_⟩⟩
      exact (hit.fr (hfB6.trans hfW (S := fun k => n0 ≤ k) (fun k _ h => by omega)) (by omega)).mono (fun k hk h => by omega)
  rintro ds F w5 ⟨Ds, rfl, hmk, hDb, hF, hfr5, h15_5, htotl⟩
  obtain ⟨G, rfl⟩ := hF.get
  clear hF
  have hsz5 := hfr5.size
  have hfB5 : Fr (fun k => n0 ≤ k) w w5 := hfB4.trans hfr5 (fun k _ h => by omega)
  have h7_5 := hfr5.keep h7_4 (by omega)
  have h9_5 := hfr5.keep h9_4 (by omega)
  have h10_5 := hfr5.keep h10_4 (by omega)
  have h11_5 := hfr5.keep h11_4 (by omega)
  obtain ⟨m, hm⟩ : ∃ m, m = w5.heap.size := ⟨_, rfl⟩
  have hDlt : ∀ D, D ∈ Ds → D < m := fun D hD => by rw [hm]; exact lt_of (hmk.at_ D hD)
  have hfrR : Fr (fun _ => False) w5 w5 := Fr.refl w5
  refine WD.seq ?_
  have LT15 := lt_of h15_5
  have FRsz := Fr.size hfrR
  refine WD.region rfl ?_
  refine RL.val rfl (ex_move (by conv => lhs; whnf)) ?_
  refine RL.val rfl (ex_move (by conv => lhs; whnf)) ?_
  refine RL.val rfl (Ybaf.bl42_0_1 (by conv => lhs; whnf) rfl (by conv => lhs; whnf) rfl) ?_
  refine RL.val rfl (ex_box (q := m) (by conv => lhs; whnf) hm.symm) ?_
  refine RL.val rfl (ex_assign (by conv => lhs; whnf)) ?_
  refine RL.nil ?_
  refine WD.seqc (fun ds F w6 => ds = Ds.map Eng.mark ∧ Has F [(0, .slice (some ⟨bT, 0, none⟩) T.length T.length), (1, .slice sa pr.length sc), (3, .int .i64 read), (7, .pointer (some ⟨n0, 0, none⟩)), (9, .pointer (some ⟨n0 + 1, 0, none⟩)), (10, .pointer (some ⟨n0 + 2, 0, none⟩)), (11, .pointer (some ⟨n0 + 3, 0, none⟩)), (21, .pointer (some ⟨m, 0, none⟩)), (22, .slice (some ⟨m + 1, 0, none⟩) 0 (tot x T S))] ∧ Fr (fun _ => False) w5 w6 ∧ w6.heap.size = m + 2 ∧ w6.heap[m]? = some (.cells #[.slice (some ⟨bT, 0, none⟩) T.length T.length, .int .i64 read, .slice none 0 0] 42 (0, 0)) ∧ ∃ cR : Array Value, w6.heap[m + 1]? = some (.cells cR 3 (0, 0)) ∧ cR.size = tot x T S) ?_ ?_
  · refine WD.region rfl ?_
    refine RL.val rfl (ex_loadB (by conv => lhs; whnf) Ybaf.sc3 (al h15_5) (by conv => lhs; whnf)) ?_
    refine RL.val rfl (ex_makeSlice (l := 0) (c := tot x T S) (q := m + 1) (by rfl) (by conv => lhs; whnf) Ybaf.sl46 Ybaf.in3 (by omega) (by omega) (by omega) (by rw [sz_al]; omega)) ?_
    refine RL.val rfl (ex_assign (by conv => lhs; whnf)) ?_
    refine RL.nil ?_
    exact ⟨rfl, ⟨rfl, rfl, rfl, rfl, rfl, rfl, rfl, rfl, rfl, trivial⟩, (Fr.alloc (Fr.alloc hfrR _) _), by simp only [sz_al]; omega, (al (an' (by first | (simp only [sz_al, sz_sr, sz_dn]; done) | rfl | omega | (simp only [sz_al, sz_sr, sz_dn]; omega)))), _, (an' (by first | (simp only [sz_al, sz_sr, sz_dn]; done) | rfl | omega | (simp only [sz_al, sz_sr, sz_dn]; omega))), by rw [size_madeCells]; omega⟩
  rintro ds F w6 ⟨rfl, hF, hf6, hsz6, hX6, cR6, hcR6, hcRs6⟩
  obtain ⟨G, rfl⟩ := hF.get
  clear hF
  have hfB6 : Fr (fun k => n0 ≤ k) w w6 := hfB5.trans hf6 (fun _ _ h => h.elim)
  have h7_6 := hf6.keep h7_5 id
  have h9_6 := hf6.keep h9_5 id
  have h10_6 := hf6.keep h10_5 id
  have h11_6 := hf6.keep h11_5 id
  have hmk6 := Marks.keep hmk hf6 (fun _ _ => id)
  have hfinM : ∀ (wr : World), Fr (fun k => m ≤ k ∨ k = n0 + 2 ∨ k = n0 + 3) w6 wr → Marks Ds wr := fun wr hfr => Marks.keep hmk6 hfr (fun D hD => by have := hDlt D hD; have := hDb D hD; omega)
  have hfinF : ∀ (wr wF : World), Fr (fun k => k ∈ Ds) wr wF → Fr (fun k => m ≤ k ∨ k = n0 + 2 ∨ k = n0 + 3) w6 wr → ItS n0 wr wF ∧ Fr (fun _ => False) w wF := fun wr wF hF hfr => by
    have hit : ItS n0 wr wF := Marks.its (hfinM wr hfr) hF (fun D hD => by have := hDb D hD; omega)
    exact ⟨hit, (hit.fr (hfB6.trans hfr (S := fun k => n0 ≤ k) (fun k _ h => by omega)) (by omega)).mono (fun k hk h => by omega)⟩
  refine WD.seqc (fun ds F wr => ds = Ds.map Eng.mark ∧ ∃ (pv : Value), Has F [(0, .slice (some ⟨bT, 0, none⟩) T.length T.length), (1, .slice sa pr.length sc), (3, .int .i64 read), (7, .pointer (some ⟨n0, 0, none⟩)), (9, .pointer (some ⟨n0 + 1, 0, none⟩)), (10, .pointer (some ⟨n0 + 2, 0, none⟩)), (11, .pointer (some ⟨n0 + 3, 0, none⟩)), (21, .pointer (some ⟨m, 0, none⟩))] ∧ Fr (fun k => m ≤ k) w6 wr ∧ wr.heap[m]? = some (.cells #[.slice (some ⟨bT, 0, none⟩) T.length T.length, .int .i64 read, pv] 42 (0, 0)) ∧ (∃ (cR : Array Value) (prO : List (Out × Value)), wr.heap[m + 1]? = some (.cells cR 3 (0, 0)) ∧ wr.ownsRow (m + 2) 48 4 pv prO.length (prO.flatMap outCells) ∧ prO.map (·.1) = outs x T S ∧ ∀ q, q ∈ prO → RowsIn cR (m + 1) (tot x T S) q) ∧ (((outs x T S).length : Nat) : Int) ≤ tlim) ?_ ?_
  · --
    refine WD.seq ?_
    refine WD.region rfl ?_
    refine RL.val rfl (ex_move (by conv => lhs; whnf)) ?_
    refine RL.val rfl (ex_len (by conv => lhs; whnf) Ybaf.sl28) ?_
    refine RL.val rfl (ex_move (by conv => lhs; whnf)) ?_
    refine RL.nil ?_
    refine WD.block ?_
    refine WD.loopk (fun mm ds F wr => ∃ (i : Nat) (pv : Value) (cR : Array Value) (prO : List (Out × Value)), mm = pr.length - i ∧ i ≤ pr.length ∧ ds = Ds.map Eng.mark ∧ Has F [(0, .slice (some ⟨bT, 0, none⟩) T.length T.length), (1, .slice sa pr.length sc), (3, .int .i64 read), (7, .pointer (some ⟨n0, 0, none⟩)), (9, .pointer (some ⟨n0 + 1, 0, none⟩)), (10, .pointer (some ⟨n0 + 2, 0, none⟩)), (11, .pointer (some ⟨n0 + 3, 0, none⟩)), (21, .pointer (some ⟨m, 0, none⟩)), (22, .slice (some ⟨m + 1, 0, none⟩) (tot x T (S.take i)) (tot x T S)), (91, .slice sa pr.length sc), (92, .int .i64 (pr.length : Nat)), (93, .int .i64 (i : Nat))] ∧ Fr (fun k => m ≤ k) w6 wr ∧ wr.heap[m]? = some (.cells #[.slice (some ⟨bT, 0, none⟩) T.length T.length, .int .i64 read, pv] 42 (0, 0)) ∧ wr.heap[m + 1]? = some (.cells cR 3 (0, 0)) ∧ cR.size = tot x T S ∧ wr.ownsRow (m + 2) 48 4 pv prO.length (prO.flatMap outCells) ∧ prO.map (·.1) = outs x T (S.take i) ∧ (∀ q, q ∈ prO → RowsIn cR (m + 1) (tot x T (S.take i)) q) ∧ (((outs x T (S.take i)).length : Nat) : Int) ≤ tlim) pr.length
      ⟨0, _, cR6, [], rfl, Nat.zero_le _, rfl, ⟨rfl, rfl, rfl, rfl, rfl, rfl, rfl, rfl, rfl, rfl, rfl, rfl, trivial⟩, Fr.refl w6, hX6, hcR6, hcRs6, ⟨rfl, .inl ⟨rfl, rfl⟩⟩, rfl, (fun _ h => by cases h), by simpa [outs] using htl0⟩ ?_
    rintro mm ds F wr ⟨i, pv, cR, prO, rfl, hi, rfl, hF, hfr, hXr, hcR, hcRs, hown, hprO, hrin, hoL⟩ K hK
    obtain ⟨G, rfl⟩ := hF.get
    clear hF
    refine WD.seq ?_
    refine WD.region rfl ?_
    refine RL.val rfl (ex_lss (by conv => lhs; whnf) (by conv => lhs; whnf)) ?_
    refine RL.nil ?_
    refine WD.seq ?_
    refine WD.cond _ (by conv => lhs; whnf) (fun hlt1 => ?_) (fun hlt1 => ?_)
    rotate_left
    · have hik : i = S.length := by have := of_decide_eq_false hlt1; omega
      refine WD.exit ?_
      repeat (first | refine thenD_exit ?_ | refine blockD_hit ?_ | refine blockD_miss rfl ?_)
      rw [hik, List.take_length] at hprO hrin hoL
      exact ⟨rfl, pv, ⟨rfl, rfl, rfl, rfl, rfl, rfl, rfl, rfl, trivial⟩, hfr, hXr, ⟨cR, prO, hcR, hown, hprO, hrin⟩, hoL⟩
    have hik : i < pr.length := by have := of_decide_eq_true hlt1; omega
    obtain ⟨q, hq⟩ : ∃ q, pr[i]? = some q := ⟨_, List.getElem?_eq_getElem hik⟩
    obtain ⟨hSi, hqS, t, hti, htok⟩ := hget i q hq
    have hszr := hfr.size
    have hfB : Fr (fun k => n0 ≤ k) w wr := hfB6.trans hfr (fun k _ h => by omega)
    obtain ⟨_, _, _, _, _, _, hrv0⟩ := hsrc i q hq
    obtain ⟨_, _, hsv', hsrc'⟩ := (hs.keep hfB).ex
    cases hsv'
    obtain ⟨b, c, rfl, hbB, hb, hrow, hrv⟩ := hsrc' i q hq
    have hRl := hS.len _ hqS
    have hRt := hS.lt _ t hqS hti
    have hplb := hS.pl_b hx _ hqS
    have htots := tot_snoc (x := x) (T := T) hSi
    have htotl' := tot_le x T S (i + 1)
    have houts := outs_snoc (x := x) (T := T) hSi
    have houtl := outs_le x T S (i + 1)
    have houtt := outs_tot x T S
    have holl := outs_le x T S i
    have hprl : prO.length = (outs x T (S.take i)).length := by rw [← hprO, List.length_map]
    have hlen1 : (outs x T (S.take (i + 1))).length = prO.length + (wsOf (plP x T q.1)).length := by rw [houts, List.length_append, outOf_len, hprl]
    obtain ⟨mo, hmo⟩ : ∃ mo : Nat, mo = (tlim - ((prO.length : Nat) : Int)).toNat := ⟨_, rfl⟩
    have hmo' : ((mo : Nat) : Int) = tlim - ((prO.length : Nat) : Int) := by omega
    have h7r := hfr.keep h7_6 (by omega)
    have h9r := hfr.keep h9_6 (by omega)
    obtain ⟨pa, pc, hpv, _⟩ := own_value hown
    subst hpv
    have hfrR2 : Fr (fun _ => False) wr wr := Fr.refl wr
    refine WD.skip ?_
    refine WD.seq ?_
    refine WD.block ?_
    refine WD.seq ?_
    have LT21 := lt_of hXr
    have LT901 := lt_of hcR
    have LT7 := lt_of h7r
    have LT9 := lt_of h9r
    have FRsz := Fr.size hfrR2
    refine WD.region rfl ?_
    refine RL.val rfl (ex_ix0 (by conv => lhs; whnf) (by conv => lhs; whnf) Ybaf.sl28 Ybaf.sz48 rfl (by omega)) ?_
    refine RL.val rfl (ex_loadR (by conv => lhs; whnf) hb Ybaf.ag48 rfl hrow) ?_
    refine RL.val rfl (ex_alloc Ybaf.zo48 (by first | (conv => lhs; simp only [sz_al, sz_sr, sz_dn]) | rfl)) ?_
    refine RL.unit (ex_storeW (vs := (pcCells q).toArray) (by conv => lhs; whnf) (by rfl) Ybaf.ag48 (an' (by first | (simp only [sz_al, sz_sr, sz_dn]; done) | rfl | omega | (simp only [sz_al, sz_sr, sz_dn]; omega))) (by rfl) (by rfl) (all4 (rowsV_one hrv).1)) ?_
    refine RL.nil ?_
    refine WD.seq ?_
    refine WD.region rfl ?_
    refine RL.val rfl (ex_assign (by conv => lhs; whnf)) ?_
    refine RL.nil ?_
    refine WD.seq ?_
    refine WD.draw [12, 13, 14, 15, 16, 17] rfl (by kernel_rfl) ?_
    refine AE.take 0 rfl (by kernel_rfl) rfl (fun w' hw => ex_move (by conv => lhs; whnf)) (Ext.drew (Ext.refl _) 1) ?_
    refine AE.take 1 rfl (by kernel_rfl) rfl (fun w' hw => ex_loadW (by conv => lhs; whnf) (hw.keep (sr_eq (an' (by first | (simp only [sz_al, sz_sr, sz_dn]; done) | rfl | omega | (simp only [sz_al, sz_sr, sz_dn]; omega))))) Ybaf.ag48 (by rfl)) (Ext.drew (Ext.refl _) 1) ?_
    refine AE.take 2 rfl (by kernel_rfl) rfl (fun w' hw => ex_loadW (by conv => lhs; whnf) (hw.keep (sr_ne (al h7r) (by (try simp only [sz_al, sz_sr, sz_dn]); omega))) Ybaf.ag32 (by rfl)) (Ext.drew (Ext.refl _) 1) ?_
    refine AE.take 3 rfl (by kernel_rfl) rfl (fun w' hw => ex_move (by conv => lhs; whnf)) (Ext.drew (Ext.refl _) 1) ?_
    refine AE.take 4 rfl (by kernel_rfl) rfl (fun w' hw => ex_fieldAddr (by conv => lhs; whnf) Ybaf.fo40_1) (Ext.drew (Ext.refl _) 1) ?_
    refine AE.take 5 rfl (by kernel_rfl) rfl (fun w' hw => ex_loadB (by conv => lhs; whnf) Ybaf.sc3 (hw.keep (sr_ne (al h9r) (by (try simp only [sz_al, sz_sr, sz_dn]); omega))) (by conv => lhs; whnf)) (Ext.drew (Ext.refl _) 1) ?_
    refine AE.take 6 rfl (by kernel_rfl) rfl (fun w' hw => ex_move (by conv => lhs; whnf)) (Ext.drew (Ext.refl _) 1) ?_
    refine AE.take 7 rfl (by kernel_rfl) rfl (fun w' hw => ex_nilCheck (by conv => lhs; whnf)) (Ext.drew (Ext.refl _) 1) ?_
    refine AE.take 8 rfl (by kernel_rfl) rfl (fun w' hw => ex_fieldAddr (by conv => lhs; whnf) Ybaf.fo42_2) (Ext.drew (Ext.refl _) 1) ?_
    refine AE.take 9 rfl (by kernel_rfl) rfl (fun w' hw => ex_loadB (by conv => lhs; whnf) Ybaf.sc28 (hw.keep (sr_ne (al hXr) (by (try simp only [sz_al, sz_sr, sz_dn]); omega))) (by conv => lhs; whnf)) (Ext.drew (Ext.refl _) 1) ?_
    refine AE.take 10 rfl (by kernel_rfl) rfl (fun w' hw => ex_len (by conv => lhs; whnf) Ybaf.sl28) (Ext.drew (Ext.refl _) 1) ?_
    refine AE.take 11 rfl (by kernel_rfl) rfl (fun w' hw => ex_sub (c := ((mo : Nat) : Int)) (by conv => lhs; whnf) (by conv => lhs; whnf) (by rw [IntKind.wrap_i64]; omega)) (Ext.drew (Ext.refl _) 1) ?_
    refine AE.call 12 rfl (by kernel_rfl) rfl (ex_call5 rfl (by conv => lhs; whnf) (by rfl) (by rfl) (by conv => lhs; whnf) (by conv => lhs; whnf) Ybaf.fun16) (cutSource (B := n0) (p := q.1) (rv := q.2) (tv := .slice (some ⟨bT, 0, none⟩) T.length T.length) (pv := .slice pa prO.length pc) (x := x) (bX := m) (bR := m + 1) (used := tot x T (S.take i)) (cap := tot x T S) (most := mo) (Bx := m + 2) (n := prO.length) (read := read) (c0 := cR) (xs := prO.flatMap outCells) (PL := plP x T q.1) hti htok hx (by omega) hRt (plP_some hti) (by omega) (by simp only [sz_al, sz_sr, sz_dn]; omega) (ht.keep (hfB.trans (Fr.drew (Fr.set (Fr.alloc hfrR2 _) _ _ (fun hh => by first | exact rfl | exact .inl rfl | exact .inr (.inl rfl) | exact .inr (.inr rfl) | ((try simp only [sz_al, sz_sr, sz_dn] at hh); (try simp only [sz_al, sz_sr, sz_dn]); (first | omega | (dsimp only; omega) | exact .inl rfl | exact .inr (.inl rfl))))) 1) (fun _ _ h => h.elim))) (hrv0.keep (hfB.trans (Fr.drew (Fr.set (Fr.alloc hfrR2 _) _ _ (fun hh => by first | exact rfl | exact .inl rfl | exact .inr (.inl rfl) | exact .inr (.inr rfl) | ((try simp only [sz_al, sz_sr, sz_dn] at hh); (try simp only [sz_al, sz_sr, sz_dn]); (first | omega | (dsimp only; omega) | exact .inl rfl | exact .inr (.inl rfl))))) 1) (fun _ _ h => h.elim))) (sr_ne (al hXr) (by (try simp only [sz_al, sz_sr, sz_dn]); omega)) (sr_ne (al hcR) (by (try simp only [sz_al, sz_sr, sz_dn]); omega)) hcRs (by omega) (by omega) (own_sr (hown.alloc _) (own_ge hown (Nat.le_refl _))) (by omega) (by omega) (by omega) (by omega) (by simp only [sz_al, sz_sr, sz_dn]; omega) (by omega)) ?_
    rintro v w8 (⟨hbad, ⟨u, rfl⟩, hf8⟩ | ⟨hok8, rfl, hf8, hct⟩)
    · refine ⟨fun h => absurd h (by decide), ?_⟩
      refine AE.takeF 13 rfl (by kernel_rfl) rfl (fun w' => ex_move (by conv => lhs; whnf)) ?_
      refine AE.takeF 14 rfl (by kernel_rfl) rfl (fun w' => ex_extract (by conv => lhs; whnf) rfl) ?_
      refine AE.takeF 15 rfl (by kernel_rfl) rfl (fun w' => ex_extract (by conv => lhs; whnf) rfl) ?_
      refine AE.takeF 16 rfl (by kernel_rfl) rfl (fun w' => ex_assign (by conv => lhs; whnf)) ?_
      refine AE.takeF 17 rfl (by kernel_rfl) rfl (fun w' => ex_assign (by conv => lhs; whnf)) ?_
      refine AE.nil (by kernel_rfl) ?_
      refine WD.seq ?_
      refine WD.region rfl ?_
      refine RL.val rfl (ex_move (by conv => lhs; whnf)) ?_
      refine RL.val rfl (ex_not (by conv => lhs; whnf)) ?_
      refine RL.nil ?_
      refine WD.cond_true rfl ?_
      have hbadT : tlim < ((outs x T S).length : Nat) := by omega
      have hf68 : Fr (fun k => m ≤ k) w6 w8 := hfr.trans (Fr.trans (Fr.drew (Fr.set (Fr.alloc hfrR2 _) _ _ (fun hh => by first | exact rfl | exact .inl rfl | exact .inr (.inl rfl) | exact .inr (.inr rfl) | ((try simp only [sz_al, sz_sr, sz_dn] at hh); (try simp only [sz_al, sz_sr, sz_dn]); (first | omega | (dsimp only; omega) | exact .inl rfl | exact .inr (.inl rfl))))) 1) hf8 (fun _ _ h => h)) (fun _ _ h => h.elim)
      have h9_8 := hf68.keep h9_6 (by omega)
      have h10_8 := hf68.keep h10_6 (by omega)
      have h11_8 := hf68.keep h11_6 (by omega)
      refine WD.seq ?_
      have LT9 := lt_of h9_8
      have LT10 := lt_of h10_8
      have LT11 := lt_of h11_8
      have FRsz := Fr.size hf68
      refine WD.region rfl ?_
      refine RL.val rfl (ex_fieldAddr (by conv => lhs; whnf) Ybaf.fo40_1) ?_
      refine RL.val rfl (ex_loadB (by conv => lhs; whnf) Ybaf.sc3 h9_8 (by conv => lhs; whnf)) ?_
      refine RL.val rfl (ex_makeInterface (by conv => lhs; whnf) Ybaf.pl3) ?_
      refine RL.val rfl (ex_buildSlice1 (by conv => lhs; whnf) Ybaf.sl83 Ybaf.sz20 Ybaf.zo20 rfl rfl rfl (by first | (conv => lhs; simp only [sz_al, sz_sr, sz_dn]) | rfl)) ?_
      refine RL.call rfl (ex_call2 rfl (v0 := .string E2) (by rfl) (by conv => lhs; whnf) Ybaf.fun15) (hE (.inr hbadT) _ _ tlim E2 (.inr rfl) htl0 htl1 (by rw [← hn0]; exact hfB6.trans (Fr.alloc hf68 _) (fun k _ h => by omega)) (an' (by first | (simp only [sz_al, sz_sr, sz_dn]; done) | rfl | omega | (simp only [sz_al, sz_sr, sz_dn]; omega)))) ?_
      rintro v w9 ⟨⟨et, eu, rfl⟩, hf9⟩
      refine RL.unit (ex_store (by conv => lhs; whnf) (by conv => lhs; whnf) Ybaf.sc34 rfl (hf9.keep (al h10_8) id) rfl) ?_
      refine RL.unit (ex_store (by conv => lhs; whnf) (by conv => lhs; whnf) Ybaf.sc36 rfl (sr_ne (hf9.keep (al h11_8) id) (by first | exact ne_of_type h11_8 h10_8 rfl | omega)) rfl) ?_
      refine RL.nil ?_
      refine WD.ret ?_
      repeat (first | refine thenD_ret ?_ | refine blockD_ret ?_)
      refine ⟨Ds, rfl, hfinM _ (Fr.set (Fr.set ((hf68.mono (fun k _ h => .inl h)).trans (Fr.trans ((Fr.refl w8).alloc _) hf9 (fun _ _ h => h)) (fun _ _ h => h.elim) : Fr (fun k => m ≤ k ∨ k = n0 + 2 ∨ k = n0 + 3) w6 w9) _ _ (fun hh => by first | exact rfl | exact .inl rfl | exact .inr (.inl rfl) | exact .inr (.inr rfl) | ((try simp only [sz_al, sz_sr, sz_dn] at hh); (try simp only [sz_al, sz_sr, sz_dn]); (first | omega | (dsimp only; omega) | exact .inl rfl | exact .inr (.inl rfl))))) _ _ (fun hh => by first | exact rfl | exact .inl rfl | exact .inr (.inl rfl) | exact .inr (.inr rfl) | ((try simp only [sz_al, sz_sr, sz_dn] at hh); (try simp only [sz_al, sz_sr, sz_dn]); (first | omega | (dsimp only; omega) | exact .inl rfl | exact .inr (.inl rfl))))), fun wF hF => ?_⟩
      obtain ⟨hit, hff⟩ := hfinF _ wF hF (Fr.set (Fr.set ((hf68.mono (fun k _ h => .inl h)).trans (Fr.trans ((Fr.refl w8).alloc _) hf9 (fun _ _ h => h)) (fun _ _ h => h.elim) : Fr (fun k => m ≤ k ∨ k = n0 + 2 ∨ k = n0 + 3) w6 w9) _ _ (fun hh => by first | exact rfl | exact .inl rfl | exact .inr (.inl rfl) | exact .inr (.inr rfl) | ((try simp only [sz_al, sz_sr, sz_dn] at hh); (try simp only [sz_al, sz_sr, sz_dn]); (first | omega | (dsimp only; omega) | exact .inl rfl | exact .inr (.inl rfl))))) _ _ (fun hh => by first | exact rfl | exact .inl rfl | exact .inr (.inl rfl) | exact .inr (.inr rfl) | ((try simp only [sz_al, sz_sr, sz_dn] at hh); (try simp only [sz_al, sz_sr, sz_dn]); (first | omega | (dsimp only; omega) | exact .inl rfl | exact .inr (.inl rfl)))))
      exact ⟨_, results_cells2 rfl rfl rfl Ybaf.sc34 Ybaf.sc36 (hit.cells (sr_ne (sr_eq (hf9.keep (al h10_8) id)) (by first | exact ne_of_type h10_8 h11_8 rfl | omega))) (hit.cells (sr_eq (sr_ne (hf9.keep (al h11_8) id) (by first | exact ne_of_type h11_8 h10_8 rfl | omega)))), .inl ⟨.inr hbadT, ⟨et, eu, rfl⟩, hff⟩⟩
    · refine ⟨fun h => absurd h (by decide), ?_⟩
      have hf08 : Fr (fun k => m ≤ k) wr w8 := Fr.trans (S := fun k => m ≤ k) (Fr.mono (Fr.drew (Fr.set (Fr.alloc hfrR2 _) _ _ (fun hh => by first | exact rfl | exact .inl rfl | exact .inr (.inl rfl) | exact .inr (.inr rfl) | ((try simp only [sz_al, sz_sr, sz_dn] at hh); (try simp only [sz_al, sz_sr, sz_dn]); (first | omega | (dsimp only; omega) | exact .inl rfl | exact .inr (.inl rfl))))) 1) (fun _ _ h => h.elim)) hf8 (fun k _ h => by
        rcases h with h | h | h
        · omega
        · omega
        · have := (hown.lt k h.symm).1; omega)
      refine AE.takeF 13 rfl (by kernel_rfl) rfl (fun w' => ex_move (by conv => lhs; whnf)) ?_
      refine AE.takeF 14 rfl (by kernel_rfl) rfl (fun w' => ex_extract (by conv => lhs; whnf) rfl) ?_
      refine AE.takeF 15 rfl (by kernel_rfl) rfl (fun w' => ex_extract (by conv => lhs; whnf) rfl) ?_
      refine AE.takeF 16 rfl (by kernel_rfl) rfl (fun w' => ex_assign (by conv => lhs; whnf)) ?_
      refine AE.takeF 17 rfl (by kernel_rfl) rfl (fun w' => ex_assign (by conv => lhs; whnf)) ?_
      refine AE.nil (by kernel_rfl) ?_
      refine WD.seq ?_
      refine WD.region rfl ?_
      refine RL.val rfl (ex_move (by conv => lhs; whnf)) ?_
      refine RL.val rfl (ex_not (by conv => lhs; whnf)) ?_
      refine RL.nil ?_
      refine WD.cond_false rfl ?_
      refine WD.skip ?_
      obtain ⟨pv', cR', prN, hX', hcR', hcRs', hold', hown', hprN, hrinN⟩ := hct.ex
      refine WD.region rfl ?_
      refine RL.val rfl (ex_add (c := ((i + 1 : Nat) : Int)) (by conv => lhs; whnf) (by conv => lhs; whnf) (by rw [IntKind.wrap_i64]; omega)) ?_
      refine RL.val rfl (ex_move (by conv => lhs; whnf)) ?_
      refine RL.nil ?_
      refine hK (pr.length - (i + 1)) _ _ _ (by omega) ⟨i + 1, pv', cR', prO ++ prN, rfl, by omega, rfl, ⟨rfl, rfl, rfl, rfl, rfl, rfl, rfl, rfl, (by rw [htots]; rfl), rfl, rfl, rfl, trivial⟩, hfr.trans hf08 (fun _ _ h => h), hX', hcR', hcRs', ?_, ?_, ?_, by omega⟩
      · rw [List.length_append, List.flatMap_append]; exact hown'
      · rw [List.map_append, hprO, hprN, houts]
      · intro z hz
        rw [htots]
        rcases List.mem_append.1 hz with h | h
        · exact (hrin z h).mono (by omega) hold'
        · exact hrinN z h
  rintro ds F wr ⟨rfl, pv, hF, hfr, hXr, ⟨cR, prO, hcR, hown, hprO, hrin⟩, hoL⟩
  obtain ⟨G, rfl⟩ := hF.get
  clear hF
  have h10r := hfr.keep h10_6 (by omega)
  have h11r := hfr.keep h11_6 (by omega)
  have hfrx : Fr (fun k => m ≤ k ∨ k = n0 + 2 ∨ k = n0 + 3) w6 wr := hfr.mono (fun k _ h => .inl h)
  refine WD.seq ?_
  have LT10 := lt_of h10r
  have LT11 := lt_of h11r
  have LT0 := lt_of hXr
  have LT901 := lt_of hcR
  have FRsz := Fr.size hfrx
  refine WD.region rfl ?_
  refine RL.val rfl (ex_move (by conv => lhs; whnf)) ?_
  refine RL.unit (ex_store (by conv => lhs; whnf) (by conv => lhs; whnf) Ybaf.sc34 rfl h10r rfl) ?_
  refine RL.unit (ex_store (by conv => lhs; whnf) (by conv => lhs; whnf) Ybaf.sc36 rfl (sr_ne h11r (by first | exact ne_of_type h11r h10r rfl | omega)) rfl) ?_
  refine RL.nil ?_
  refine WD.ret ?_
  repeat (first | refine thenD_ret ?_ | refine blockD_ret ?_)
  refine ⟨Ds, rfl, hfinM _ (Fr.set (Fr.set hfrx _ _ (fun hh => by first | exact rfl | exact .inl rfl | exact .inr (.inl rfl) | exact .inr (.inr rfl) | ((try simp only [sz_al, sz_sr, sz_dn] at hh); (try simp only [sz_al, sz_sr, sz_dn]); (first | omega | (dsimp only; omega) | exact .inl rfl | exact .inr (.inl rfl))))) _ _ (fun hh => by first | exact rfl | exact .inl rfl | exact .inr (.inl rfl) | exact .inr (.inr rfl) | ((try simp only [sz_al, sz_sr, sz_dn] at hh); (try simp only [sz_al, sz_sr, sz_dn]); (first | omega | (dsimp only; omega) | exact .inl rfl | exact .inr (.inl rfl))))), fun wF hF => ?_⟩
  obtain ⟨hit, hff⟩ := hfinF _ wF hF (Fr.set (Fr.set hfrx _ _ (fun hh => by first | exact rfl | exact .inl rfl | exact .inr (.inl rfl) | exact .inr (.inr rfl) | ((try simp only [sz_al, sz_sr, sz_dn] at hh); (try simp only [sz_al, sz_sr, sz_dn]); (first | omega | (dsimp only; omega) | exact .inl rfl | exact .inr (.inl rfl))))) _ _ (fun hh => by first | exact rfl | exact .inl rfl | exact .inr (.inl rfl) | exact .inr (.inr rfl) | ((try simp only [sz_al, sz_sr, sz_dn] at hh); (try simp only [sz_al, sz_sr, sz_dn]); (first | omega | (dsimp only; omega) | exact .inl rfl | exact .inr (.inl rfl)))))
  refine ⟨_, results_cells2 rfl rfl rfl Ybaf.sc34 Ybaf.sc36 (hit.cells (sr_ne (sr_eq h10r) (by first | exact ne_of_type h10r h11r rfl | omega))) (hit.cells (sr_eq (sr_ne h11r (by first | exact ne_of_type h11r h10r rfl | omega)))), .inr ⟨htotl, hoL, ⟨m, pv, rfl, hit.cells (sr_ne (sr_ne hXr (by first | exact ne_of_type hXr h10r rfl | omega)) (by first | exact ne_of_type hXr h11r rfl | omega)), ?_⟩, hff⟩⟩
  exact pieces_of (hit.own (own_sr (own_sr hown (own_ne hown h10r rfl)) (own_ne hown h11r rfl))) rfl hprO (hit.cells (sr_ne (sr_ne hcR (by first | exact ne_of_type hcR h10r rfl | omega)) (by first | exact ne_of_type hcR h11r rfl | omega))) hrin
end Go.Proofs.YbulknocFmt
