/- What comes in; 'too big' by its contract. -/
import Derived.Test.YbulknocFmtEqP
namespace Go.Proofs.YbulknocFmt
open Go Go.Eng Go.RowKit
set_option linter.unusedSimpArgs false
set_option linter.unusedVariables false

/-- One source as it comes in. -/
structure Src where
  table : Nat
  ra : Option Addr
  rc : Nat
  rows : List Nat
  whole : Bool
  start : Int
  stop : Int
structure Src.Ok (s : Src) : Prop where
  t1 : s.table < 256
  r1 : ∀ r, r ∈ s.rows → r < 256
  s1 : -128 ≤ s.start ∧ s.start ≤ 127
  s2 : -128 ≤ s.stop ∧ s.stop ≤ 127
/-- One row of times: where it lies, what it holds. -/
structure Tms where
  a : Option Addr
  c : Nat
  l : List Int
/-- One row of nulls: nil or not. -/
structure Nls where
  a : Option Addr
  c : Nat
  l : List Bool
structure TimesAt (w : World) (B : Nat) (ta : Option Addr) (TS : List Tms) : Prop where
  at_ : ∀ (i : Nat) t, TS[i]? = some t → ∃ bb oo, ta = some ⟨bb, oo, none⟩ ∧ bb < B ∧ w.cell? ⟨bb, oo + i, none⟩ = some (.slice t.a t.l.length t.c)
  in_ : ∀ (i : Nat) t, TS[i]? = some t → ∀ (j : Nat) v, t.l[j]? = some v → (∃ bb oo, t.a = some ⟨bb, oo, none⟩ ∧ bb < B ∧ w.cell? ⟨bb, oo + j, none⟩ = some (.int .i8 v)) ∧ -128 ≤ v ∧ v ≤ 127
structure NullsAt (w : World) (B : Nat) (na : Option Addr) (NS : List Nls) : Prop where
  at_ : ∀ (i : Nat) t, NS[i]? = some t → ∃ bb oo, na = some ⟨bb, oo, none⟩ ∧ bb < B ∧ w.cell? ⟨bb, oo + i, none⟩ = some (.slice t.a t.l.length t.c)
  in_ : ∀ (i : Nat) t, NS[i]? = some t → ∀ (j : Nat) b, t.l[j]? = some b → ∃ bb oo, t.a = some ⟨bb, oo, none⟩ ∧ bb < B ∧ w.cell? ⟨bb, oo + j, none⟩ = some (.bool b)
structure SrcsAt (w : World) (B : Nat) (sa : Option Addr) (SS : List Src) : Prop where
  at_ : ∀ (i : Nat) s, SS[i]? = some s → ∃ bb oo, sa = some ⟨bb, oo, none⟩ ∧ bb < B ∧ w.cell? ⟨bb, oo + i * 5 + 0, none⟩ = some (.int .u8 (s.table : Nat)) ∧ w.cell? ⟨bb, oo + i * 5 + 1, none⟩ = some (.slice s.ra s.rows.length s.rc) ∧
    w.cell? ⟨bb, oo + i * 5 + 2, none⟩ = some (.bool s.whole) ∧ w.cell? ⟨bb, oo + i * 5 + 3, none⟩ = some (.int .i8 s.start) ∧ w.cell? ⟨bb, oo + i * 5 + 4, none⟩ = some (.int .i8 s.stop)
  in_ : ∀ (i : Nat) s, SS[i]? = some s → ∀ (j : Nat) r, s.rows[j]? = some r → ∃ bb oo, s.ra = some ⟨bb, oo, none⟩ ∧ bb < B ∧ w.cell? ⟨bb, oo + j, none⟩ = some (.int .u8 (r : Nat))
  ok : ∀ s, s ∈ SS → s.Ok
section
variable {w w' : World} {B : Nat}
theorem TimesAt.keep {ta : Option Addr} {TS : List Tms} (h : TimesAt w B ta TS) (hf : Fr (fun k => B ≤ k) w w') : TimesAt w' B ta TS :=
  ⟨fun i t ht => let ⟨bb, oo, h1, h2, h3⟩ := h.at_ i t ht; ⟨bb, oo, h1, h2, hf.cell h3 (by show ¬ B ≤ bb; omega)⟩, fun i t ht j v hv => let ⟨⟨bb, oo, h1, h2, h3⟩, h4⟩ := h.in_ i t ht j v hv; ⟨⟨bb, oo, h1, h2, hf.cell h3 (by show ¬ B ≤ bb; omega)⟩, h4⟩⟩
theorem NullsAt.keep {na : Option Addr} {NS : List Nls} (h : NullsAt w B na NS) (hf : Fr (fun k => B ≤ k) w w') : NullsAt w' B na NS :=
  ⟨fun i t ht => let ⟨bb, oo, h1, h2, h3⟩ := h.at_ i t ht; ⟨bb, oo, h1, h2, hf.cell h3 (by show ¬ B ≤ bb; omega)⟩, fun i t ht j v hv => let ⟨bb, oo, h1, h2, h3⟩ := h.in_ i t ht j v hv; ⟨bb, oo, h1, h2, hf.cell h3 (by show ¬ B ≤ bb; omega)⟩⟩
theorem SrcsAt.keep {sa : Option Addr} {SS : List Src} (h : SrcsAt w B sa SS) (hf : Fr (fun k => B ≤ k) w w') : SrcsAt w' B sa SS :=
  ⟨fun i s hs => let ⟨bb, oo, h1, h2, h3, h4, h5, h6, h7⟩ := h.at_ i s hs; have hn : ¬ B ≤ bb := (by omega); ⟨bb, oo, h1, h2, hf.cell h3 hn, hf.cell h4 hn, hf.cell h5 hn, hf.cell h6 hn, hf.cell h7 hn⟩,
   fun i s hs j r hr => let ⟨bb, oo, h1, h2, h3⟩ := h.in_ i s hs j r hr; ⟨bb, oo, h1, h2, hf.cell h3 (by show ¬ B ≤ bb; omega)⟩, h.ok⟩
end
theorem five_get {b o : Nat} {w : World} {v0 v1 v2 v3 v4 : Value} (h0 : w.cell? ⟨b, o + 0, none⟩ = some v0) (h1 : w.cell? ⟨b, o + 1, none⟩ = some v1) (h2 : w.cell? ⟨b, o + 2, none⟩ = some v2) (h3 : w.cell? ⟨b, o + 3, none⟩ = some v3) (h4 : w.cell? ⟨b, o + 4, none⟩ = some v4) :
    ∀ (j : Nat) v, [v0, v1, v2, v3, v4][j]? = some v → w.cell? ((⟨b, o, none⟩ : Addr).add j) = some v := by
  intro j v h
  rw [add_lit]
  match j, h with
  | 0, h => cases h; exact h0
  | 1, h => cases h; exact h1
  | 2, h => cases h; exact h2
  | 3, h => cases h; exact h3
  | 4, h => cases h; exact h4
  | n + 5, h => simp at h

set_option maxRecDepth 100000 in
theorem tooBig {w : World} {B : Nat} {ta sa : Option Addr} {tc sc : Nat} {TS : List Tms} {SS : List Src} (ht : TimesAt w B ta TS) (hs : SrcsAt w B sa SS) : Calls Ybaf.prog 5 #[.slice ta TS.length tc, .slice sa SS.length sc] w fun e' w' => ∃ r, e' = .returned r ∧
    ((r = .bool true ∨ (r = .bool false ∧ TS.length ≤ 256 ∧ SS.length ≤ 256 ∧ (∀ t, t ∈ TS → t.l.length ≤ 256) ∧ ∀ s, s ∈ SS → s.rows.length ≤ 256)) ∧ Fr (fun _ => False) w w') := by
  have hfr0 : Fr (fun _ => False) w w := Fr.refl w
  refine calls_of Ybaf.func5 rfl rfl ?_
  refine WP.seq ?_
  have FRsz := Fr.size hfr0
  refine WP.region ?_
  refine RL.val rfl (ex_assign (by conv => lhs; whnf)) ?_
  refine RL.nil ?_
  refine WP.seqc (fun F wr => wr = w ∧ TS.length ≤ 256 ∧ SS.length ≤ 256 ∧ Has F [(0, .slice ta TS.length tc), (1, .slice sa SS.length sc)]) ?_ ?_
  · refine WP.seq ?_
    by_cases h1 : TS.length ≤ 256
    · have d1 : decide ((256 : Int) < (TS.length : Int)) = false := decide_eq_false (by omega)
      refine WP.region ?_
      refine RL.val rfl (ex_move (by conv => lhs; whnf)) ?_
      refine RL.val rfl (ex_len (by conv => lhs; whnf) Ybaf.sl22) ?_
      refine RL.val rfl (ex_gtr (by conv => lhs; whnf) (by conv => lhs; whnf)) ?_
      refine RL.val rfl (ex_move (by conv => lhs; whnf)) ?_
      refine RL.take (dj := 12) rfl (congrArg Value.bool d1) ?_
      refine RL.val rfl (ex_move (by conv => lhs; whnf)) ?_
      refine RL.take (dj := 12) rfl (congrArg Value.bool d1) ?_
      refine RL.val rfl (ex_len (by conv => lhs; whnf) Ybaf.sl24) ?_
      refine RL.take (dj := 12) rfl (congrArg Value.bool d1) ?_
      refine RL.val rfl (ex_gtr (by conv => lhs; whnf) (by conv => lhs; whnf)) ?_
      refine RL.val rfl (ex_pick_f (congrArg Value.bool d1) (by conv => lhs; whnf)) ?_
      refine RL.nil ?_
      by_cases h2 : SS.length ≤ 256
      · refine WP.cond_false (congrArg Value.bool (decide_eq_false (by omega))) ?_
        refine WP.skip ?_
        exact ⟨rfl, h1, h2, rfl, rfl, trivial⟩
      · refine WP.cond_true (congrArg Value.bool (decide_eq_true (by omega))) ?_
        refine WP.seq ?_
        refine WP.region ?_
        refine RL.val rfl (ex_assign (by conv => lhs; whnf)) ?_
        refine RL.nil ?_
        refine WP.ret ?_
        repeat (first | refine thenQ_ret ?_ | refine blockQ_ret ?_)
        exact bodyQ_tmp rfl ⟨.inl rfl, hfr0⟩
    · have d1 : decide ((256 : Int) < (TS.length : Int)) = true := decide_eq_true (by omega)
      refine WP.region ?_
      refine RL.val rfl (ex_move (by conv => lhs; whnf)) ?_
      refine RL.val rfl (ex_len (by conv => lhs; whnf) Ybaf.sl22) ?_
      refine RL.val rfl (ex_gtr (by conv => lhs; whnf) (by conv => lhs; whnf)) ?_
      refine RL.val rfl (ex_move (by conv => lhs; whnf)) ?_
      refine RL.skip (dj := 12) (b := true) rfl rfl (congrArg Value.bool d1) rfl ?_
      refine RL.skip (dj := 12) (b := true) rfl rfl (congrArg Value.bool d1) rfl ?_
      refine RL.skip (dj := 12) (b := true) rfl rfl (congrArg Value.bool d1) rfl ?_
      refine RL.val rfl (ex_pick_t (congrArg Value.bool d1) (by conv => lhs; whnf)) ?_
      refine RL.nil ?_
      refine WP.cond_true rfl ?_
      refine WP.seq ?_
      refine WP.region ?_
      refine RL.val rfl (ex_assign (by conv => lhs; whnf)) ?_
      refine RL.nil ?_
      refine WP.ret ?_
      repeat (first | refine thenQ_ret ?_ | refine blockQ_ret ?_)
      exact bodyQ_tmp rfl ⟨.inl rfl, hfr0⟩
  rintro F wr ⟨rfl, hT, hS, hF⟩
  obtain ⟨G, rfl⟩ := hF.get
  clear hF
  refine WP.seqc (fun F w2 => w2 = wr ∧ (∀ t, t ∈ TS → t.l.length ≤ 256) ∧ Has F [(1, .slice sa SS.length sc)]) ?_ ?_
  · refine WP.seq ?_
    refine WP.region ?_
    refine RL.val rfl (ex_move (by conv => lhs; whnf)) ?_
    refine RL.val rfl (ex_len (by conv => lhs; whnf) Ybaf.sl22) ?_
    refine RL.val rfl (ex_move (by conv => lhs; whnf)) ?_
    refine RL.nil ?_
    refine WP.block ?_
    refine WP.loopk (fun m F w2 => ∃ i : Nat, m = TS.length - i ∧ i ≤ TS.length ∧ (∀ t, t ∈ TS.take i → t.l.length ≤ 256) ∧ Has F [(1, .slice sa SS.length sc), (17, .slice ta TS.length tc), (18, .int .i64 (TS.length : Nat)), (19, .int .i64 (i : Nat))] ∧ w2 = wr) TS.length ⟨0, rfl, Nat.zero_le _, fun t h => by simp at h, ⟨rfl, rfl, rfl, rfl, trivial⟩, rfl⟩ ?_
    rintro m F w2 ⟨i, rfl, hi, hall, hF, rfl⟩ K hK
    obtain ⟨G, rfl⟩ := hF.get
    clear hF
    refine WP.seq ?_
    refine WP.region ?_
    refine RL.val rfl (ex_lss (by conv => lhs; whnf) (by conv => lhs; whnf)) ?_
    refine RL.nil ?_
    refine WP.seq ?_
    refine WP.cond _ (by conv => lhs; whnf) (fun hlt1 => ?_) (fun hlt1 => ?_)
    rotate_left
    · have hik : i = TS.length := by have := of_decide_eq_false hlt1; omega
      refine WP.exit ?_
      repeat (first | refine thenQ_exit ?_ | refine blockQ_hit ?_ | refine blockQ_miss rfl ?_)
      rw [hik, List.take_length] at hall
      exact ⟨rfl, hall, rfl, trivial⟩
    have hik : i < TS.length := by have := of_decide_eq_true hlt1; omega
    obtain ⟨t, htt⟩ : ∃ t, TS[i]? = some t := ⟨_, List.getElem?_eq_getElem hik⟩
    obtain ⟨bb, oo, rfl, hbb, hc⟩ := ht.at_ i t htt
    refine WP.skip ?_
    refine WP.seq ?_
    refine WP.block ?_
    refine WP.seq ?_
    refine WP.region ?_
    refine RL.val rfl (ex_ixa (by conv => lhs; whnf) (by conv => lhs; whnf) Ybaf.sl22 Ybaf.sz54 rfl (by omega)) ?_
    refine RL.val rfl (ex_load (by conv => lhs; whnf) Ybaf.sc54 hc) ?_
    refine RL.val rfl (ex_assign (by conv => lhs; whnf)) ?_
    refine RL.nil ?_
    refine WP.seq ?_
    refine WP.region ?_
    refine RL.val rfl (ex_move (by conv => lhs; whnf)) ?_
    refine RL.val rfl (ex_len (by conv => lhs; whnf) Ybaf.sl54) ?_
    refine RL.val rfl (ex_gtr (by conv => lhs; whnf) (by conv => lhs; whnf)) ?_
    refine RL.nil ?_
    by_cases h1 : t.l.length ≤ 256
    · refine WP.cond_false (congrArg Value.bool (decide_eq_false (by omega))) ?_
      refine WP.skip ?_
      refine WP.region ?_
      refine RL.val rfl (ex_add (c := ((i + 1 : Nat) : Int)) (by conv => lhs; whnf) (by conv => lhs; whnf) (by rw [IntKind.wrap_i64]; omega)) ?_
      refine RL.val rfl (ex_move (by conv => lhs; whnf)) ?_
      refine RL.nil ?_
      refine hK (TS.length - (i + 1)) _ _ (by omega) ⟨i + 1, rfl, by omega, fun t' ht' => ?_, ⟨rfl, rfl, rfl, rfl, trivial⟩, rfl⟩
      rw [List.take_succ_eq_append_getElem hik] at ht'
      rcases List.mem_append.1 ht' with h | h
      · exact hall t' h
      · have : t' = t := by
          have e := (List.getElem?_eq_some_iff.1 htt).2
          rw [e] at h
          simpa using h
        rw [this]; exact h1
    · refine WP.cond_true (congrArg Value.bool (decide_eq_true (by omega))) ?_
      refine WP.seq ?_
      refine WP.region ?_
      refine RL.val rfl (ex_assign (by conv => lhs; whnf)) ?_
      refine RL.nil ?_
      refine WP.ret ?_
      repeat (first | refine thenQ_ret ?_ | refine blockQ_ret ?_)
      exact bodyQ_tmp rfl ⟨.inl rfl, hfr0⟩
  rintro F w2 ⟨rfl, hTall, hF⟩
  obtain ⟨G, rfl⟩ := hF.get
  clear hF
  refine WP.seqc (fun F w3 => Fr (fun _ => False) w2 w3 ∧ (∀ s, s ∈ SS → s.rows.length ≤ 256)) ?_ ?_
  · refine WP.seq ?_
    refine WP.region ?_
    refine RL.val rfl (ex_move (by conv => lhs; whnf)) ?_
    refine RL.val rfl (ex_len (by conv => lhs; whnf) Ybaf.sl24) ?_
    refine RL.val rfl (ex_move (by conv => lhs; whnf)) ?_
    refine RL.nil ?_
    refine WP.block ?_
    refine WP.loopk (fun m F w3 => ∃ i : Nat, m = SS.length - i ∧ i ≤ SS.length ∧ (∀ s, s ∈ SS.take i → s.rows.length ≤ 256) ∧ Has F [(27, .slice sa SS.length sc), (28, .int .i64 (SS.length : Nat)), (29, .int .i64 (i : Nat))] ∧ Fr (fun _ => False) w2 w3) SS.length ⟨0, rfl, Nat.zero_le _, fun t h => by simp at h, ⟨rfl, rfl, rfl, trivial⟩, Fr.refl _⟩ ?_
    rintro m F w3 ⟨i, rfl, hi, hall, hF, hfr⟩ K hK
    obtain ⟨G, rfl⟩ := hF.get
    clear hF
    refine WP.seq ?_
    have FRsz := Fr.size hfr
    refine WP.region ?_
    refine RL.val rfl (ex_lss (by conv => lhs; whnf) (by conv => lhs; whnf)) ?_
    refine RL.nil ?_
    refine WP.seq ?_
    refine WP.cond _ (by conv => lhs; whnf) (fun hlt1 => ?_) (fun hlt1 => ?_)
    rotate_left
    · have hik : i = SS.length := by have := of_decide_eq_false hlt1; omega
      refine WP.exit ?_
      repeat (first | refine thenQ_exit ?_ | refine blockQ_hit ?_ | refine blockQ_miss rfl ?_)
      rw [hik, List.take_length] at hall
      exact ⟨hfr, hall⟩
    have hik : i < SS.length := by have := of_decide_eq_true hlt1; omega
    obtain ⟨s, hss⟩ : ∃ s, SS[i]? = some s := ⟨_, List.getElem?_eq_getElem hik⟩
    obtain ⟨bb, oo, rfl, hbb, g0, g1, g2, g3, g4⟩ := hs.at_ i s hss
    have hA := five_get (hfr.cell g0 id) (hfr.cell g1 id) (hfr.cell g2 id) (hfr.cell g3 id) (hfr.cell g4 id)
    refine WP.skip ?_
    refine WP.seq ?_
    refine WP.block ?_
    refine WP.seq ?_
    refine WP.region ?_
    refine RL.val rfl (ex_indexAddr (by conv => lhs; whnf) (by conv => lhs; whnf) Ybaf.sl24 Ybaf.sz57 rfl (by omega)) ?_
    refine RL.val rfl (ex_loadA (by conv => lhs; whnf) Ybaf.ag57 rfl hA) ?_
    refine RL.val rfl (ex_alloc Ybaf.zo57 (by first | (conv => lhs; simp only [sz_al, sz_sr, sz_dn]) | rfl)) ?_
    refine RL.unit (ex_storeW (by conv => lhs; whnf) (by conv => lhs; whnf) Ybaf.ag57 (an' (by first | (simp only [sz_al, sz_sr, sz_dn]; done) | rfl | omega | (simp only [sz_al, sz_sr, sz_dn]; omega))) rfl rfl rfl) ?_
    refine RL.nil ?_
    refine WP.seq ?_
    refine WP.region ?_
    refine RL.val rfl (ex_fieldAddr (by conv => lhs; whnf) Ybaf.fo57_1) ?_
    refine RL.val rfl (ex_loadB (by conv => lhs; whnf) Ybaf.sc55 (sr_eq (an' (by first | (simp only [sz_al, sz_sr, sz_dn]; done) | rfl | omega | (simp only [sz_al, sz_sr, sz_dn]; omega)))) (by conv => lhs; whnf)) ?_
    refine RL.val rfl (ex_len (by conv => lhs; whnf) Ybaf.sl55) ?_
    refine RL.val rfl (ex_gtr (by conv => lhs; whnf) (by conv => lhs; whnf)) ?_
    refine RL.nil ?_
    by_cases h1 : s.rows.length ≤ 256
    · refine WP.cond_false (congrArg Value.bool (decide_eq_false (by omega))) ?_
      refine WP.skip ?_
      refine WP.region ?_
      refine RL.val rfl (ex_add (c := ((i + 1 : Nat) : Int)) (by conv => lhs; whnf) (by conv => lhs; whnf) (by rw [IntKind.wrap_i64]; omega)) ?_
      refine RL.val rfl (ex_move (by conv => lhs; whnf)) ?_
      refine RL.nil ?_
      refine hK (SS.length - (i + 1)) _ _ (by omega) ⟨i + 1, rfl, by omega, fun t' ht' => ?_, ⟨rfl, rfl, rfl, trivial⟩, (Fr.set (Fr.alloc hfr _) _ _ (fun hh => by first | exact rfl | exact .inl rfl | exact .inr (.inl rfl) | exact .inr (.inr rfl) | ((try simp only [sz_al, sz_sr, sz_dn] at hh); (try simp only [sz_al, sz_sr, sz_dn]); (first | omega | (dsimp only; omega) | exact .inl rfl | exact .inr (.inl rfl)))))⟩
      rw [List.take_succ_eq_append_getElem hik] at ht'
      rcases List.mem_append.1 ht' with h | h
      · exact hall t' h
      · have : t' = s := by
          have e := (List.getElem?_eq_some_iff.1 hss).2
          rw [e] at h
          simpa using h
        rw [this]; exact h1
    · refine WP.cond_true (congrArg Value.bool (decide_eq_true (by omega))) ?_
      refine WP.seq ?_
      refine WP.region ?_
      refine RL.val rfl (ex_assign (by conv => lhs; whnf)) ?_
      refine RL.nil ?_
      refine WP.ret ?_
      repeat (first | refine thenQ_ret ?_ | refine blockQ_ret ?_)
      exact bodyQ_tmp rfl ⟨.inl rfl, (Fr.set (Fr.alloc hfr _) _ _ (fun hh => by first | exact rfl | exact .inl rfl | exact .inr (.inl rfl) | exact .inr (.inr rfl) | ((try simp only [sz_al, sz_sr, sz_dn] at hh); (try simp only [sz_al, sz_sr, sz_dn]); (first | omega | (dsimp only; omega) | exact .inl rfl | exact .inr (.inl rfl)))))⟩
  rintro F w3 ⟨hfr, hSall⟩
  refine WP.seq ?_
  refine WP.region ?_
  refine RL.val rfl (ex_assign (by conv => lhs; whnf)) ?_
  refine RL.nil ?_
  refine WP.ret ?_
  repeat (first | refine thenQ_ret ?_ | refine blockQ_ret ?_)
  exact bodyQ_tmp rfl ⟨.inr ⟨rfl, hT, hS, hTall, hSall⟩, hfr⟩
end Go.Proofs.YbulknocFmt
