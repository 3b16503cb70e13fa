/- The two laws' walks. -/
import Derived.Test.YbulknocFmtMo
namespace Go.Proofs.YbulknocFmt
open Go Go.Eng Go.RowKit
set_option linter.unusedSimpArgs false
set_option linter.unusedVariables false

theorem run_eqGuard_if {op : BinOp} {t : TypeId} {x : Operand} {v : Value} {w : World} (hv : v = .nilIface ∨ ∃ k u, v = .iface k u) : (eqGuard op t x (.const .nilIface) v .nilIface).run Ybaf.prog w = .ok () w := by
  unfold eqGuard
  rcases hv with rfl | ⟨k, u, rfl⟩ <;> cases op <;> cases x <;> rfl
theorem run_equal_if {t d} {v : Value} {w : World} (hv : v = .nilIface ∨ ∃ k u, v = .iface k u) (ht : Ybaf.prog.underlying t = some (.interface d)) : (Op.equal t v .nilIface).run Ybaf.prog w = .ok (match v with | .nilIface => true | _ => false) w := by
  unfold Op.equal Op.maxDepth Op.equalIn
  rw [Sem.run_bind, run_underlying ht w]
  rcases hv with rfl | ⟨k, u, rfl⟩ <;> rfl
theorem ex_neq_if_nil {t t' : TypeId} {ρ : Operand → Value} {ty : TypeId} {w : World} {x : Operand} (hx : ρ x = .nilIface) (hy : ρ (.const .nilIface) = .nilIface) (ht : ∃ d, Ybaf.prog.underlying t = some (.interface d)) : ex Ybaf.prog ρ (.binOp .neq t x (.const .nilIface) t') ty w = .ok (.value (.bool false)) w := by
  obtain ⟨d, ht⟩ := ht
  unfold ex execOp
  simp only [hx, hy]
  simp [run_eqGuard_if (.inl rfl), binOp, run_equal_if (.inl rfl) ht]
theorem ex_neq_if_some {t t' : TypeId} {ρ : Operand → Value} {ty : TypeId} {w : World} {x : Operand} {k : TypeId} {u : Value} (hx : ρ x = .iface k u) (hy : ρ (.const .nilIface) = .nilIface) (ht : ∃ d, Ybaf.prog.underlying t = some (.interface d)) : ex Ybaf.prog ρ (.binOp .neq t x (.const .nilIface) t') ty w = .ok (.value (.bool true)) w := by
  obtain ⟨d, ht⟩ := ht
  unfold ex execOp
  simp only [hx, hy]
  simp [run_eqGuard_if (.inr ⟨k, u, rfl⟩), binOp, run_equal_if (.inr ⟨k, u, rfl⟩) ht]
theorem Ybaf.if36 : ∃ d, Ybaf.prog.underlying 36 = some (.interface d) := ⟨_, Ybaf.underlying36⟩

theorem PiecesAt.keep {w w' : World} {v : Value} {L : List Out} (h : PiecesAt w v L) (hf : Fr (fun _ => False) w w') : PiecesAt w' v L := by
  obtain ⟨a, cap, h1, h2⟩ := h.ex
  refine ⟨a, cap, h1, fun i q hq => ?_⟩
  obtain ⟨b, o, rv, h3, h4, h5, h6, h7, h8⟩ := h2 i q hq
  exact ⟨b, o, rv, h3, hf.cell h4 id, hf.cell h5 id, hf.cell h6 id, hf.cell h7 id, h8.keep hf⟩
theorem TabsAt.of {w : World} {B : Nat} {NS : List Nls} {TS : List Tms} (h : TabsTo w B NS TS TS.length) : TabsAt w w.heap.size (.slice (some ⟨B, 0, none⟩) (tabsOf NS TS).length (tabsOf NS TS).length) (tabsOf NS TS) := by
  obtain ⟨cT, h1, h2, h3⟩ := h.ex
  refine ⟨B, cT, rfl, lt_of h1, h1, fun i t ht => ?_⟩
  rw [tabsOf_get] at ht
  cases hi : TS[i]? with
  | none => rw [hi] at ht; cases ht
  | some t' =>
    rw [hi] at ht
    simp only [Option.map_some, Option.some.injEq] at ht
    subst ht
    exact h3 i t' (List.getElem?_eq_some_iff.1 hi).1 hi
theorem TabAt.up {w : World} {B B' bt bc : Nat} {t : Tab} (h : TabAt w B bt bc t) (hB : B ≤ B') : TabAt w B' bt bc t := by
  obtain ⟨h1, h2, h3⟩ := h
  obtain ⟨c1, bv, nv, cv, c2, c3, c4, c5, c6⟩ := h3.ex
  refine ⟨Nat.lt_of_lt_of_le h1 hB, h2, ⟨Nat.lt_of_lt_of_le c1 hB, bv, nv, cv, c2, Nat.lt_of_lt_of_le c3 hB, c4, c5, ⟨c6.or.imp id ?_⟩⟩⟩
  rintro ⟨l, bn, cn, n1, n2, n3, n4, n5⟩
  exact ⟨l, bn, cn, n1, n2, Nat.lt_of_lt_of_le n3 hB, n4, n5⟩
theorem TabsAt.up {w : World} {B B' : Nat} {tv : Value} {T : List Tab} (h : TabsAt w B tv T) (hB : B ≤ B') : TabsAt w B' tv T := by
  obtain ⟨bT, cT, h1, h2, h3, h4⟩ := h.ex
  exact ⟨bT, cT, h1, Nat.lt_of_lt_of_le h2 hB, h3, fun i t ht => let ⟨bt, bc, h5, h6⟩ := h4 i t ht; ⟨bt, bc, h5, h6.up hB⟩⟩
theorem SrcV.up {w : World} {B B' : Nat} {sv : Value} {pr : List (Pc × Value)} (h : SrcV w B sv pr) (hB : B ≤ B') : SrcV w B' sv pr := by
  obtain ⟨a, cap, h1, h2⟩ := h.ex
  refine ⟨a, cap, h1, fun i q hq => ?_⟩
  obtain ⟨b, c, h3, h4, h5, h6, h7⟩ := h2 i q hq
  exact ⟨b, c, h3, Nat.lt_of_lt_of_le h4 hB, h5, h6, h7.keepT (fun _ _ _ _ h => h) hB⟩
theorem sok {NS : List Nls} {TS : List Tms} {SS : List Src} {w : World} {B : Nat} {ta : Option Addr} (ht : TimesAt w B ta TS) (hS : SS.length ≤ 256) (hTl : ∀ t, t ∈ TS → t.l.length ≤ 256) (hSl : ∀ s, s ∈ SS → s.rows.length ≤ 256) (hT : TS ≠ []) : SOk (tabsOf NS TS) (SS.map (pcOf (tabsOf NS TS))) := by
  have hpos : 0 < (tabsOf NS TS).length := by rw [tabsOf_len]; exact List.length_pos_iff.2 hT
  have htl : ∀ t, t ∈ tabsOf NS TS → t.vals.length ≤ 256 ∧ t.Ok := fun t hm => by
    obtain ⟨i, hi⟩ := List.getElem?_of_mem hm
    rw [tabsOf_get] at hi
    cases hti : TS[i]? with
    | none => rw [hti] at hi; cases hi
    | some t' =>
      rw [hti] at hi
      simp only [Option.map_some, Option.some.injEq] at hi
      subst hi
      have h1 := hTl t' (List.mem_of_getElem? hti)
      refine ⟨h1, ⟨fun v hv => ?_, fun l hl => ?_, h1⟩⟩
      · obtain ⟨j, hj⟩ := List.getElem?_of_mem hv
        exact (ht.in_ i t' hti j v hj).2
      · simp only [tabOf, nullsOf] at hl
        split at hl
        · split at hl
          · cases hl
          · cases hl
            simp [padB, tabOf]
        · cases hl
  have hrow : ∀ s, s ∈ SS → ∀ t, (tabsOf NS TS)[(pcOf (tabsOf NS TS) s).ti]? = some t → (rowsOf (tabsOf NS TS) (pcOf (tabsOf NS TS) s)).length ≤ 256 ∧ ∀ r, r ∈ rowsOf (tabsOf NS TS) (pcOf (tabsOf NS TS) s) → r < t.vals.length := fun s hs t hti => by
    have h1 := (htl t (List.mem_of_getElem? hti)).1
    have h2 := hSl s hs
    have hti' : (tabsOf NS TS)[s.table % (tabsOf NS TS).length]? = some t := hti
    cases hw : s.whole with
    | true =>
      have e : rowsOf (tabsOf NS TS) (pcOf (tabsOf NS TS) s) = List.range t.vals.length := by
        simp only [rowsOf, pcOf, hw, hti', if_true, Option.map_some, Option.getD_some]
      rw [e]
      exact ⟨by rw [List.length_range]; exact h1, fun r hr => List.mem_range.1 hr⟩
    | false =>
      have e : rowsOf (tabsOf NS TS) (pcOf (tabsOf NS TS) s) = if 0 < t.vals.length then s.rows.map (· % t.vals.length) else [] := by
        simp only [rowsOf, pcOf, hw, hti', Option.map_some, Option.getD_some]
        rfl
      rw [e]
      split
      · rename_i h0
        refine ⟨by rw [List.length_map]; exact h2, fun r hr => ?_⟩
        obtain ⟨a, _, rfl⟩ := List.mem_map.1 hr
        exact Nat.mod_lt _ h0
      · exact ⟨by simp, fun r hr => by cases hr⟩
  have hti : ∀ s : Src, (pcOf (tabsOf NS TS) s).ti < (tabsOf NS TS).length := fun s => Nat.mod_lt _ hpos
  refine ⟨by rw [List.length_map]; exact hS, fun t hm => (htl t hm).2, fun p hp => ?_, fun p hp => ?_, fun p t hp hpt => ?_⟩
  · obtain ⟨s, _, rfl⟩ := List.mem_map.1 hp
    exact hti s
  · obtain ⟨s, hs, rfl⟩ := List.mem_map.1 hp
    exact (hrow s hs _ (List.getElem?_eq_getElem (hti s))).1
  · obtain ⟨s, hs, rfl⟩ := List.mem_map.1 hp
    exact (hrow s hs t hpt).2
theorem sok_nil : SOk [] [] := ⟨by simp, (fun _ h => by cases h), (fun _ h => by cases h), (fun _ h => by cases h), (fun _ _ h => by cases h)⟩
theorem outs_rows {x : Win} (hx : x.Ok) {T : List Tab} {S : List Pc} (hS : SOk T S) {q : Out} (h : q ∈ outs x T S) : q.rows.length ≤ 10000000 := by
  obtain ⟨p, hp, hq⟩ := List.mem_flatMap.1 h
  obtain ⟨s, _, rfl⟩ := List.mem_map.1 hq
  have h1 := grp_le (plP x T p) s
  have h2 := hS.pl_b hx p hp
  show (grp (plP x T p) s).length ≤ _
  omega
theorem TimesAt.up {w : World} {B B' : Nat} {ta : Option Addr} {TS : List Tms} (h : TimesAt w B ta TS) (hB : B ≤ B') : TimesAt w B' ta TS :=
  ⟨fun i t ht => let ⟨bb, oo, h1, h2, h3⟩ := h.at_ i t ht; ⟨bb, oo, h1, Nat.lt_of_lt_of_le h2 hB, h3⟩, fun i t ht j v hv => let ⟨⟨bb, oo, h1, h2, h3⟩, h4⟩ := h.in_ i t ht j v hv; ⟨⟨bb, oo, h1, Nat.lt_of_lt_of_le h2 hB, h3⟩, h4⟩⟩
theorem NullsAt.up {w : World} {B B' : Nat} {na : Option Addr} {NS : List Nls} (h : NullsAt w B na NS) (hB : B ≤ B') : NullsAt w B' na NS :=
  ⟨fun i t ht => let ⟨bb, oo, h1, h2, h3⟩ := h.at_ i t ht; ⟨bb, oo, h1, Nat.lt_of_lt_of_le h2 hB, h3⟩, fun i t ht j v hv => let ⟨bb, oo, h1, h2, h3⟩ := h.in_ i t ht j v hv; ⟨bb, oo, h1, Nat.lt_of_lt_of_le h2 hB, h3⟩⟩
theorem SrcsAt.up {w : World} {B B' : Nat} {sa : Option Addr} {SS : List Src} (h : SrcsAt w B sa SS) (hB : B ≤ B') : SrcsAt w B' sa SS :=
  ⟨fun i s hs => let ⟨bb, oo, h1, h2, h3, h4, h5, h6, h7⟩ := h.at_ i s hs; ⟨bb, oo, h1, Nat.lt_of_lt_of_le h2 hB, h3, h4, h5, h6, h7⟩,
   fun i s hs j r hr => let ⟨bb, oo, h1, h2, h3⟩ := h.in_ i s hs j r hr; ⟨bb, oo, h1, Nat.lt_of_lt_of_le h2 hB, h3⟩, h.ok⟩
/-- What build gives, in one form. -/
theorem built {w w' : World} {B : Nat} {ta : Option Addr} {TS : List Tms} {NS : List Nls} {SS : List Src} {sv : Value} {pr : List (Pc × Value)} {Bs : Nat} (ht : TimesAt w B ta TS) (hS : SS.length ≤ 256) (hTl : ∀ t, t ∈ TS → t.l.length ≤ 256) (hSl : ∀ s, s ∈ SS → s.rows.length ≤ 256)
    (h1 : TabsTo w' B NS TS TS.length) (h2 : TS = [] → sv = .slice none 0 0) (h3 : TS ≠ [] → SrcTo w' Bs sv (SS.map (pcOf (tabsOf NS TS))) pr) :
    ∃ (T : List Tab) (S : List Pc) (pr : List (Pc × Value)), T.length = TS.length ∧ SOk T S ∧ pr.map (·.1) = S ∧ TabsAt w' w'.heap.size (.slice (some ⟨B, 0, none⟩) TS.length TS.length) T ∧ SrcV w' w'.heap.size sv pr := by
  have hta := TabsAt.of h1
  rw [tabsOf_len] at hta
  by_cases hT : TS = []
  · have hT0 : tabsOf NS TS = [] := by rw [hT]; rfl
    rw [hT0] at hta
    rw [h2 hT]
    exact ⟨[], [], [], by rw [hT]; rfl, sok_nil, rfl, hta, SrcV.nil _ _⟩
  · exact ⟨tabsOf NS TS, _, pr, tabsOf_len _ _, sok ht hS hTl hSl hT, (h3 hT).fst, hta, SrcV.of (h3 hT)⟩

set_option maxRecDepth 100000 in
set_option maxHeartbeats 4000000 in
theorem lawPieces {w : World} {B : Nat} {ta na sa : Option Addr} {tc nc sc : Nat} {TS : List Tms} {NS : List Nls} {SS : List Src} {e p : Nat} {o read : Int} (hB : B = w.heap.size) (ht : TimesAt w B ta TS) (hn : NullsAt w B na NS) (hs : SrcsAt w B sa SS) (he : e < 256) (hp : p < 256) (ho1 : -128 ≤ o) (ho2 : o ≤ 127) :
    Calls Ybaf.prog 3 #[.slice ta TS.length tc, .slice na NS.length nc, .slice sa SS.length sc, .int .u8 (e : Nat), .int .u8 (p : Nat), .int .i8 o, .int .i64 read] w fun e w' => ∃ r, e = .returned r ∧ (r = .bool true ∧ Fr (fun k => B ≤ k) w w') := by
  have hfr0 : Fr (fun _ => False) w w := Fr.refl w
  refine calls_of Ybaf.func3 rfl rfl ?_
  refine WP.seq ?_
  have FRsz := Fr.size hfr0
  refine WP.region ?_
  refine RL.val rfl (ex_assign (by conv => lhs; whnf)) ?_
  refine RL.nil ?_
  refine WP.seq ?_
  refine WP.seq ?_
  refine WP.region ?_
  refine RL.val rfl (ex_move (by conv => lhs; whnf)) ?_
  refine RL.val rfl (ex_move (by conv => lhs; whnf)) ?_
  refine RL.call rfl (ex_call2 rfl (by conv => lhs; whnf) (by conv => lhs; whnf) Ybaf.fun5) (tooBig ht hs) ?_
  rintro v w1 ⟨(rfl | ⟨rfl, hT, hS, hTl, hSl⟩), hf1⟩
  · refine RL.nil ?_
    refine WP.cond_true rfl ?_
    refine WP.seq ?_
    refine WP.region ?_
    refine RL.val rfl (ex_assign (by conv => lhs; whnf)) ?_
    refine RL.nil ?_
    refine WP.ret ?_
    repeat (first | refine thenQ_ret ?_ | refine blockQ_ret ?_)
    exact bodyQ_tmp rfl ⟨rfl, Fr.up hf1⟩
  refine RL.nil ?_
  refine WP.cond_false rfl ?_
  refine WP.skip ?_
  have hf1B : Fr (fun k => B ≤ k) w w1 := Fr.up hf1
  have ht1 := ht.keep hf1B
  have hn1 := hn.keep hf1B
  have hs1 := hs.keep hf1B
  obtain ⟨B1, hB1⟩ : ∃ B1, B1 = w1.heap.size := ⟨_, rfl⟩
  have hBB : B ≤ B1 := by have := hf1.size; omega
  have ht1' : TimesAt w1 B1 ta TS := ht1.up hBB
  have hn1' : NullsAt w1 B1 na NS := hn1.up hBB
  have hs1' : SrcsAt w1 B1 sa SS := hs1.up hBB
  refine WP.seq ?_
  refine WP.region ?_
  refine RL.val rfl (ex_move (by conv => lhs; whnf)) ?_
  refine RL.val rfl (ex_move (by conv => lhs; whnf)) ?_
  refine RL.val rfl (ex_move (by conv => lhs; whnf)) ?_
  refine RL.call rfl (ex_call3 rfl (by conv => lhs; whnf) (by conv => lhs; whnf) (by conv => lhs; whnf) Ybaf.fun6) (build hB1 ht1' hn1' hs1' hT hS hTl hSl) ?_
  rintro v w2 ⟨sv, pr0, Bs, rfl, hto, hf2, hBs, hsv0, hsv1⟩
  obtain ⟨T, S, pr, hTT, hSO, hpr, htabs, hsrc⟩ := built ht1' hS hTl hSl hto hsv0 hsv1
  have hx := winOf_ok (e := e) (p := p) ho1 ho2
  refine RL.val rfl (ex_move (by conv => lhs; whnf)) ?_
  refine RL.val rfl (ex_extract (by conv => lhs; whnf) rfl) ?_
  refine RL.val rfl (ex_extract (by conv => lhs; whnf) rfl) ?_
  refine RL.val rfl (ex_assign (by conv => lhs; whnf)) ?_
  refine RL.val rfl (ex_assign (by conv => lhs; whnf)) ?_
  refine RL.nil ?_
  refine WP.seqc (fun F w4 => ∃ b17, Has F [(6, .int .i64 read), (15, .slice (some ⟨B1, 0, none⟩) TS.length TS.length), (16, sv), (17, .pointer (some ⟨b17, 0, none⟩))] ∧ w4.heap[b17]? = some (.cells (winRow (winOf e p o)) 32 (0, 0)) ∧ Fr (fun _ => False) w2 w4) ?_ ?_
  · refine WP.region ?_
    refine RL.val rfl (ex_move (by conv => lhs; whnf)) ?_
    refine RL.val rfl (ex_move (by conv => lhs; whnf)) ?_
    refine RL.val rfl (ex_move (by conv => lhs; whnf)) ?_
    refine RL.call rfl (ex_call3 rfl (by conv => lhs; whnf) (by conv => lhs; whnf) (by conv => lhs; whnf) Ybaf.fun7) (mkWin he hp ho1 ho2) ?_
    rintro v w3 ⟨rfl, hf3⟩
    have FRsz := Fr.size hf3
    refine RL.val rfl (ex_alloc Ybaf.zo32 (by first | (conv => lhs; simp only [sz_al, sz_sr, sz_dn]) | rfl)) ?_
    refine RL.unit (ex_storeW (by conv => lhs; whnf) (by conv => lhs; whnf) Ybaf.ag32 (an' (by first | (simp only [sz_al, sz_sr, sz_dn]; done) | rfl | omega | (simp only [sz_al, sz_sr, sz_dn]; omega))) (by rfl) (by rfl) (by rfl)) ?_
    refine RL.nil ?_
    exact ⟨_, ⟨rfl, rfl, rfl, rfl, trivial⟩, (sr_eq (an' (by first | (simp only [sz_al, sz_sr, sz_dn]; done) | rfl | omega | (simp only [sz_al, sz_sr, sz_dn]; omega)))), (Fr.set (Fr.alloc hf3 _) _ _ (fun hh => by first | exact rfl | exact .inl rfl | exact .inr (.inl rfl) | exact .inr (.inr rfl) | ((try simp only [sz_al, sz_sr, sz_dn] at hh); (try simp only [sz_al, sz_sr, sz_dn]); (first | omega | (dsimp only; omega) | exact .inl rfl | exact .inr (.inl rfl)))))⟩
  rintro F w4 ⟨b17, hF, h17, hf4⟩
  obtain ⟨G, rfl⟩ := hF.get
  clear hF
  have hsz4 := hf4.size
  have htabs4 : TabsAt w4 w4.heap.size (.slice (some ⟨B1, 0, none⟩) TS.length TS.length) T := (htabs.keep (Fr.up hf4)).up hsz4
  have hsrc4 : SrcV w4 w4.heap.size sv pr := (hsrc.keep (Fr.up hf4)).up hsz4
  have htakb := hSO.tak_b
  have htotb := hSO.tot_b hx
  have houtt := outs_tot (winOf e p o) T S
  refine WP.seqc (fun F w5 => ∃ bX pv, Has F [(6, .int .i64 read), (15, .slice (some ⟨B1, 0, none⟩) TS.length TS.length), (16, sv), (17, .pointer (some ⟨b17, 0, none⟩)), (18, .pointer (some ⟨bX, 0, none⟩)), (19, .nilIface)] ∧ w5.heap[bX]? = some (.cells #[.slice (some ⟨B1, 0, none⟩) TS.length TS.length, .int .i64 read, pv] 42 (0, 0)) ∧ PiecesAt w5 pv (outs (winOf e p o) T S) ∧ Fr (fun _ => False) w4 w5) ?_ ?_
  · have LT17 := lt_of h17
    refine WP.region ?_
    refine RL.val rfl (ex_move (by conv => lhs; whnf)) ?_
    refine RL.val rfl (ex_move (by conv => lhs; whnf)) ?_
    refine RL.val rfl (ex_loadW (by conv => lhs; whnf) h17 Ybaf.ag32 (by rfl)) ?_
    refine RL.val rfl (ex_move (by conv => lhs; whnf)) ?_
    refine RL.val rfl (Ybaf.bl40_0_1 (by conv => lhs; whnf) rfl (by conv => lhs; whnf) rfl) ?_
    refine RL.call rfl (ex_call5 rfl (by conv => lhs; whnf) (by conv => lhs; whnf) (by rfl) (by conv => lhs; whnf) (by rfl) Ybaf.fun8) (cut (x := winOf e p o) (read := read) (Rl := 9223372036854775807) (Tl := 9223372036854775807) (rlim := 9223372036854775807) (tlim := 9223372036854775807) hx hSO hpr htabs4 hsrc4 (by omega) (by omega) (by omega) (by omega) (by omega) (by omega) (fun h => by omega)) ?_
    rintro v w5 (⟨hbad, _⟩ | ⟨_, _, ⟨bX, pv, rfl, hX, hP⟩, hf5⟩)
    · exfalso
      omega
    refine RL.val rfl (ex_move (by conv => lhs; whnf)) ?_
    refine RL.val rfl (ex_extract (by conv => lhs; whnf) rfl) ?_
    refine RL.val rfl (ex_extract (by conv => lhs; whnf) rfl) ?_
    refine RL.val rfl (ex_assign (by conv => lhs; whnf)) ?_
    refine RL.val rfl (ex_assign (by conv => lhs; whnf)) ?_
    refine RL.nil ?_
    exact ⟨bX, pv, ⟨rfl, rfl, rfl, rfl, rfl, rfl, trivial⟩, hX, hP, hf5⟩
  rintro F w5 ⟨bX, pv, hF, hX, hP, hf5⟩
  obtain ⟨G, rfl⟩ := hF.get
  clear hF
  refine WP.seq ?_
  refine WP.seq ?_
  have LT18 := lt_of hX
  refine WP.region ?_
  refine RL.val rfl (ex_move (by conv => lhs; whnf)) ?_
  refine RL.val rfl (ex_neq_if_nil (by conv => lhs; whnf) rfl Ybaf.if36) ?_
  refine RL.val rfl (ex_move (by conv => lhs; whnf)) ?_
  refine RL.take (dj := 45) rfl rfl ?_
  refine RL.val rfl (ex_move (by conv => lhs; whnf)) ?_
  refine RL.take (dj := 45) rfl rfl ?_
  refine RL.val rfl (ex_eql_nil (by conv => lhs; whnf) (by conv => lhs; whnf) Ybaf.pt34) ?_
  refine RL.val rfl (ex_pick_f rfl (by conv => lhs; whnf)) ?_
  refine RL.nil ?_
  refine WP.cond_false rfl ?_
  refine WP.skip ?_
  refine WP.seq ?_
  refine WP.seq ?_
  refine WP.region ?_
  refine RL.val rfl (ex_move (by conv => lhs; whnf)) ?_
  refine RL.val rfl (ex_nilCheck (by conv => lhs; whnf)) ?_
  refine RL.val rfl (ex_fieldAddr (by conv => lhs; whnf) Ybaf.fo42_1) ?_
  refine RL.val rfl (ex_loadB (by conv => lhs; whnf) Ybaf.sc3 hX (by conv => lhs; whnf)) ?_
  refine RL.val rfl (ex_move (by conv => lhs; whnf)) ?_
  refine RL.val rfl (ex_neq (by conv => lhs; whnf) (by conv => lhs; whnf)) ?_
  refine RL.val rfl (ex_move (by conv => lhs; whnf)) ?_
  refine RL.take (dj := 55) rfl (congrArg Value.bool (decide_eq_false (by omega))) ?_
  refine RL.val rfl (ex_move (by conv => lhs; whnf)) ?_
  refine RL.take (dj := 55) rfl (congrArg Value.bool (decide_eq_false (by omega))) ?_
  refine RL.val rfl (ex_nilCheck (by conv => lhs; whnf)) ?_
  refine RL.take (dj := 55) rfl (congrArg Value.bool (decide_eq_false (by omega))) ?_
  refine RL.val rfl (ex_fieldAddr (by conv => lhs; whnf) Ybaf.fo42_0) ?_
  refine RL.take (dj := 55) rfl (congrArg Value.bool (decide_eq_false (by omega))) ?_
  refine RL.val rfl (ex_loadB (by conv => lhs; whnf) Ybaf.sc27 hX (by conv => lhs; whnf)) ?_
  refine RL.take (dj := 55) rfl (congrArg Value.bool (decide_eq_false (by omega))) ?_
  refine RL.val rfl (ex_len (by conv => lhs; whnf) Ybaf.sl27) ?_
  refine RL.take (dj := 55) rfl (congrArg Value.bool (decide_eq_false (by omega))) ?_
  refine RL.val rfl (ex_move (by conv => lhs; whnf)) ?_
  refine RL.take (dj := 55) rfl (congrArg Value.bool (decide_eq_false (by omega))) ?_
  refine RL.val rfl (ex_len (by conv => lhs; whnf) Ybaf.sl27) ?_
  refine RL.take (dj := 55) rfl (congrArg Value.bool (decide_eq_false (by omega))) ?_
  refine RL.val rfl (ex_neq (by conv => lhs; whnf) (by conv => lhs; whnf)) ?_
  refine RL.val rfl (ex_pick_f (congrArg Value.bool (decide_eq_false (by omega))) (by conv => lhs; whnf)) ?_
  refine RL.nil ?_
  refine WP.cond_false (congrArg Value.bool (decide_eq_false (by omega))) ?_
  refine WP.skip ?_
  have htabs5 : TabsAt w5 w5.heap.size (.slice (some ⟨B1, 0, none⟩) TS.length TS.length) T := (htabs4.keep (Fr.up hf5)).up hf5.size
  have hsrc5 : SrcV w5 w5.heap.size sv pr := (hsrc4.keep (Fr.up hf5)).up hf5.size
  have h17_5 := hf5.keep h17 id
  have hfr5 : Fr (fun _ => False) w5 w5 := Fr.refl w5
  refine WP.seq ?_
  have LT18 := lt_of hX
  have LT17 := lt_of h17_5
  have FRsz := Fr.size hfr5
  refine WP.draw [] (by kernel_rfl) ?_
  refine AE.take 0 rfl (by kernel_rfl) rfl (fun w' hw => ex_move (by conv => lhs; whnf)) (Ext.drew (Ext.refl _) 1) ?_
  refine AE.take 1 rfl (by kernel_rfl) rfl (fun w' hw => ex_nilCheck (by conv => lhs; whnf)) (Ext.drew (Ext.refl _) 1) ?_
  refine AE.take 2 rfl (by kernel_rfl) rfl (fun w' hw => ex_fieldAddr (by conv => lhs; whnf) Ybaf.fo42_2) (Ext.drew (Ext.refl _) 1) ?_
  refine AE.take 3 rfl (by kernel_rfl) rfl (fun w' hw => ex_loadB (by conv => lhs; whnf) Ybaf.sc28 (hw.keep hX) (by conv => lhs; whnf)) (Ext.drew (Ext.refl _) 1) ?_
  refine AE.take 4 rfl (by kernel_rfl) rfl (fun w' hw => ex_move (by conv => lhs; whnf)) (Ext.drew (Ext.refl _) 1) ?_
  refine AE.take 5 rfl (by kernel_rfl) rfl (fun w' hw => ex_move (by conv => lhs; whnf)) (Ext.drew (Ext.refl _) 1) ?_
  refine AE.take 6 rfl (by kernel_rfl) rfl (fun w' hw => ex_loadW (by conv => lhs; whnf) (hw.keep h17_5) Ybaf.ag32 (by rfl)) (Ext.drew (Ext.refl _) 1) ?_
  refine AE.call 7 rfl (by kernel_rfl) rfl (ex_call3 rfl (by conv => lhs; whnf) (by conv => lhs; whnf) (by rfl) Ybaf.fun10) (model (x := winOf e p o) hx hSO hpr (w := w5.drewN 1) (htabs5.keep (Fr.up (Fr.drew (Fr.refl w5) 1))) (hsrc5.keep (Fr.up (Fr.drew (Fr.refl w5) 1)))) ?_
  rintro v w6 ⟨hP6, hf6⟩
  refine ⟨fun _ => Ext.trans (Ext.drew (Ext.refl _) 1) (Ext.of_fr hf6), ?_⟩
  refine AE.call 8 rfl (by kernel_rfl) rfl (ex_call2 rfl (by conv => lhs; whnf) (by conv => lhs; whnf) Ybaf.fun9) (eqPieces (hP.keep (Fr.trans (Fr.drew hfr5 1) hf6 (fun _ _ h => h))) hP6 (by omega) (fun q hq => outs_rows hx hSO hq)) ?_
  rintro v w7 ⟨rfl, hf7⟩
  refine ⟨fun _ => Ext.trans (Ext.trans (Ext.drew (Ext.refl _) 1) (Ext.of_fr hf6)) (Ext.of_fr hf7), ?_⟩
  refine AE.take 9 rfl (by kernel_rfl) rfl (fun w' hw => ex_assign (by conv => lhs; whnf)) (Ext.trans (Ext.trans (Ext.drew (Ext.refl _) 1) (Ext.of_fr hf6)) (Ext.of_fr hf7)) ?_
  refine AE.nil (by kernel_rfl) ?_
  refine WP.ret ?_
  repeat (first | refine thenQ_ret ?_ | refine blockQ_ret ?_)
  refine bodyQ_tmp rfl ⟨rfl, ?_⟩
  exact ((hf1B.trans hf2 (fun k _ h => by omega)).trans (hf4.trans hf5 (fun _ _ h => h)) (fun _ _ h => h.elim)).trans (Fr.trans (Fr.trans (Fr.drew hfr5 1) hf6 (fun _ _ h => h)) hf7 (fun _ _ h => h)) (fun _ _ h => h.elim)
end Go.Proofs.YbulknocFmt
