/- Pieces; the iterator over a piece's rows. -/
import Derived.Test.YbulknocFmtTab
namespace Go.Proofs.YbulknocFmt
open Go Go.Eng Go.RowKit
set_option linter.unusedSimpArgs false
set_option linter.unusedVariables false

def kap : Obj → Bool
  | .cells _ T _ => Nat.beq T 97
  | _ => true
theorem kap_nc (o : Obj) (h : o.isCells = false) : kap o = true := by cases o <;> first | rfl | cases h

structure Pc where
  ti : Nat
  rows : Option (List Nat)
  start : Int
  stop : Int
abbrev pcRow (p : Pc) (rv : Value) : Array Value := #[.int .i64 (p.ti : Nat), rv, .int .i64 p.start, .int .i64 p.stop]
structure RowsV (w : World) (B : Nat) (rv : Value) (rows : Option (List Nat)) : Prop where
  or : (rows = none ∧ rv = .slice none 0 0) ∨ ∃ l br o c cap, rows = some l ∧ rv = .slice (some ⟨br, o, none⟩) l.length cap ∧ br < B ∧ w.heap[br]? = some (.cells c 3 (0, 0)) ∧ ∀ (j : Nat) r, l[j]? = some r → c[o + j]? = some (.int .i64 ((r : Nat) : Int))
theorem RowsV.keep {w w' : World} {B : Nat} {rv : Value} {rows : Option (List Nat)} (h : RowsV w B rv rows) (hf : Fr (fun k => B ≤ k) w w') : RowsV w' B rv rows :=
  ⟨h.or.imp id fun ⟨l, br, o, c, cap, h1, h2, h3, h4, h5⟩ => ⟨l, br, o, c, cap, h1, h2, h3, hf.keep h4 (by show ¬ B ≤ br; omega), h5⟩⟩
def rowsOf (T : List Tab) (p : Pc) : List Nat := match p.rows with
  | none => List.range ((T[p.ti]?.map (·.vals.length)).getD 0)
  | some l => l
theorem rowsV_one {w : World} {B : Nat} {rv : Value} {rows : Option (List Nat)} (h : RowsV w B rv rows) : rv.oneCell' = true ∧ rv.cells = #[rv] := by
  rcases h.or with ⟨_, rfl⟩ | ⟨l, br, o, c, cap, _, rfl, _⟩ <;> exact ⟨rfl, rfl⟩

/-- What the iterator over rows reads. -/
structure MfR (B : Nat) (T : List Tab) (p : Pc) (bp bq : Nat) (rv tv : Value) (w : World) : Prop where
  pc : w.heap[bp]? = some (.cells (pcRow p rv) 48 (0, 0))
  tb : w.heap[bq]? = some (.cells #[tv] 27 (0, 0))
  rows : RowsV w B rv p.rows
  tabs : TabsAt w B tv T

set_option maxRecDepth 100000 in
theorem size {w : World} {B : Nat} {T : List Tab} {t : Tab} {p : Pc} {rv tv : Value} (hr : RowsV w B rv p.rows) (ht : TabsAt w B tv T) (hti : T[p.ti]? = some t) :
    Calls Ybaf.prog 11 #[.agg (pcRow p rv), tv] w fun e w' => ∃ v, e = .returned v ∧ (v = .int .i64 ((rowsOf T p).length : Nat) ∧ Fr (fun _ => False) w w') := by
  have hfr0 : Fr (fun _ => False) w w := Fr.refl w
  obtain ⟨bT, cT, rfl, hbT, hcT, hcell⟩ := ht.ex
  obtain ⟨bt, bc, hbt, htab⟩ := hcell p.ti t hti
  have hrow := htab.row
  have htl : p.ti < T.length := (List.getElem?_eq_some_iff.1 hti).1
  refine calls_of Ybaf.func11 rfl rfl ?_
  refine WP.seq ?_
  have LT900 := lt_of hcT
  have LT13 := lt_of hrow
  have FRsz := Fr.size hfr0
  refine WP.region ?_
  refine RL.val rfl (ex_box (by conv => lhs; whnf) (by first | (conv => lhs; simp only [sz_al, sz_sr, sz_dn]) | rfl)) ?_
  refine RL.val rfl (ex_assign (by conv => lhs; whnf)) ?_
  refine RL.nil ?_
  refine WP.seq ?_
  rcases hr.or with ⟨h1, rfl⟩ | ⟨l, br, o, c, cap, h1, rfl, _, _, _⟩
  · refine WP.seq ?_
    refine WP.region ?_
    refine RL.val rfl (ex_fieldAddr (by conv => lhs; whnf) Ybaf.fo48_1) ?_
    refine RL.val rfl (ex_loadB (by conv => lhs; whnf) Ybaf.sc46 (an' (by first | (simp only [sz_al, sz_sr, sz_dn]; done) | rfl | omega | (simp only [sz_al, sz_sr, sz_dn]; omega))) (by conv => lhs; whnf)) ?_
    refine RL.val rfl (ex_eql_nilslice (by conv => lhs; whnf) (by conv => lhs; whnf) Ybaf.sl46) ?_
    refine RL.nil ?_
    refine WP.cond_true rfl ?_
    refine WP.seq ?_
    refine WP.region ?_
    refine RL.val rfl (ex_move (by conv => lhs; whnf)) ?_
    refine RL.val rfl (ex_fieldAddr (by conv => lhs; whnf) Ybaf.fo48_0) ?_
    refine RL.val rfl (ex_loadB (by conv => lhs; whnf) Ybaf.sc3 (an' (by first | (simp only [sz_al, sz_sr, sz_dn]; done) | rfl | omega | (simp only [sz_al, sz_sr, sz_dn]; omega))) (by conv => lhs; whnf)) ?_
    refine RL.val rfl (ex_ix1 (by conv => lhs; whnf) (by conv => lhs; whnf) Ybaf.sl27 Ybaf.sz52 rfl (by omega)) ?_
    refine RL.val rfl (ex_load (by conv => lhs; whnf) Ybaf.sc52 (cellOf (al hcT) hbt)) ?_
    refine RL.val rfl (ex_nilCheck (by conv => lhs; whnf)) ?_
    refine RL.val rfl (ex_fieldAddr (by conv => lhs; whnf) Ybaf.fo51_1) ?_
    refine RL.val rfl (ex_loadB (by conv => lhs; whnf) Ybaf.sc3 (al hrow) (by conv => lhs; whnf)) ?_
    refine RL.val rfl (ex_assign (by conv => lhs; whnf)) ?_
    refine RL.nil ?_
    refine WP.ret ?_
    repeat (first | refine thenQ_ret ?_ | refine blockQ_ret ?_)
    exact bodyQ_tmp rfl ⟨by rw [rowsOf, h1]; simp [hti]; rfl, (Fr.alloc hfr0 _)⟩
  · refine WP.seq ?_
    refine WP.region ?_
    refine RL.val rfl (ex_fieldAddr (by conv => lhs; whnf) Ybaf.fo48_1) ?_
    refine RL.val rfl (ex_loadB (by conv => lhs; whnf) Ybaf.sc46 (an' (by first | (simp only [sz_al, sz_sr, sz_dn]; done) | rfl | omega | (simp only [sz_al, sz_sr, sz_dn]; omega))) (by conv => lhs; whnf)) ?_
    refine RL.val rfl (ex_eql_nilslice (by conv => lhs; whnf) (by conv => lhs; whnf) Ybaf.sl46) ?_
    refine RL.nil ?_
    refine WP.cond_false rfl ?_
    refine WP.skip ?_
    refine WP.seq ?_
    refine WP.region ?_
    refine RL.val rfl (ex_fieldAddr (by conv => lhs; whnf) Ybaf.fo48_1) ?_
    refine RL.val rfl (ex_loadB (by conv => lhs; whnf) Ybaf.sc46 (an' (by first | (simp only [sz_al, sz_sr, sz_dn]; done) | rfl | omega | (simp only [sz_al, sz_sr, sz_dn]; omega))) (by conv => lhs; whnf)) ?_
    refine RL.val rfl (ex_len (by conv => lhs; whnf) Ybaf.sl46) ?_
    refine RL.val rfl (ex_assign (by conv => lhs; whnf)) ?_
    refine RL.nil ?_
    refine WP.ret ?_
    repeat (first | refine thenQ_ret ?_ | refine blockQ_ret ?_)
    exact bodyQ_tmp rfl ⟨by rw [rowsOf, h1]; rfl, (Fr.alloc hfr0 _)⟩
theorem rowsIn {w : World} {p : Pc} {rv tv : Value} (hone : tv.cells = #[tv]) : Calls Ybaf.prog 13 #[.agg (pcRow p rv), tv] w fun e w' => ∃ v, e = .returned v ∧
    (v = .func (.func 21) #[] #[.pointer (some ⟨w.heap.size, 0, none⟩), .pointer (some ⟨w.heap.size + 1, 0, none⟩)] ∧ w'.heap[w.heap.size]? = some (.cells (pcRow p rv) 48 (0, 0)) ∧ w'.heap[w.heap.size + 1]? = some (.cells #[tv] 27 (0, 0)) ∧ w'.heap.size = w.heap.size + 2 ∧ Fr (fun _ => False) w w') := by
  have hfr0 : Fr (fun _ => False) w w := Fr.refl w
  refine calls_of Ybaf.func13 rfl rfl ?_
  refine WP.seq ?_
  have FRsz := Fr.size hfr0
  refine WP.region ?_
  refine RL.val rfl (ex_box (by conv => lhs; whnf) (by first | (conv => lhs; simp only [sz_al, sz_sr, sz_dn]) | rfl)) ?_
  refine RL.val rfl (ex_box (by conv => lhs; whnf) (by first | (conv => lhs; simp only [sz_al, sz_sr, sz_dn]) | rfl)) ?_
  refine RL.val rfl (ex_assign (by conv => lhs; whnf)) ?_
  refine RL.nil ?_
  refine WP.seq ?_
  refine WP.region ?_
  refine RL.val rfl (ex_mf2 (by conv => lhs; whnf) (by conv => lhs; whnf)) ?_
  refine RL.val rfl (ex_assign (by conv => lhs; whnf)) ?_
  refine RL.nil ?_
  refine WP.ret ?_
  repeat (first | refine thenQ_ret ?_ | refine blockQ_ret ?_)
  exact bodyQ_tmp rfl ⟨rfl, (al (an' (by first | (simp only [sz_al, sz_sr, sz_dn]; done) | rfl | omega | (simp only [sz_al, sz_sr, sz_dn]; omega)))), by rw [← hone]; exact (an' (by first | (simp only [sz_al, sz_sr, sz_dn]; done) | rfl | omega | (simp only [sz_al, sz_sr, sz_dn]; omega))), by simp only [sz_al], (Fr.alloc (Fr.alloc hfr0 _) _)⟩
theorem placements {w : World} {x : Win} {cv sv : Value} (h1 : cv.cells = #[cv]) (h2 : sv.cells = #[sv]) : Calls Ybaf.prog 28 #[.agg (winRow x), cv, sv] w fun e w' => ∃ v, e = .returned v ∧
    (v = .func (.func 31) #[] #[.pointer (some ⟨w.heap.size + 2, 0, none⟩), .pointer (some ⟨w.heap.size + 1, 0, none⟩), .pointer (some ⟨w.heap.size, 0, none⟩)] ∧ w'.heap[w.heap.size]? = some (.cells (winRow x) 32 (0, 0)) ∧ w'.heap[w.heap.size + 1]? = some (.cells #[cv] 66 (0, 0)) ∧ w'.heap[w.heap.size + 2]? = some (.cells #[sv] 69 (0, 0)) ∧ w'.heap.size = w.heap.size + 3 ∧ Fr (fun _ => False) w w') := by
  have hfr0 : Fr (fun _ => False) w w := Fr.refl w
  refine calls_of Ybaf.func28 rfl rfl ?_
  refine WP.seq ?_
  have FRsz := Fr.size hfr0
  refine WP.region ?_
  refine RL.val rfl (ex_box (by conv => lhs; whnf) (by first | (conv => lhs; simp only [sz_al, sz_sr, sz_dn]) | rfl)) ?_
  refine RL.val rfl (ex_box (by conv => lhs; whnf) (by first | (conv => lhs; simp only [sz_al, sz_sr, sz_dn]) | rfl)) ?_
  refine RL.val rfl (ex_box (by conv => lhs; whnf) (by first | (conv => lhs; simp only [sz_al, sz_sr, sz_dn]) | rfl)) ?_
  refine RL.val rfl (ex_assign (by conv => lhs; whnf)) ?_
  refine RL.nil ?_
  refine WP.seq ?_
  refine WP.region ?_
  refine RL.val rfl (ex_mf3 (by conv => lhs; whnf) (by conv => lhs; whnf) (by conv => lhs; whnf)) ?_
  refine RL.val rfl (ex_assign (by conv => lhs; whnf)) ?_
  refine RL.nil ?_
  refine WP.ret ?_
  repeat (first | refine thenQ_ret ?_ | refine blockQ_ret ?_)
  exact bodyQ_tmp rfl ⟨rfl, (al (al (an' (by first | (simp only [sz_al, sz_sr, sz_dn]; done) | rfl | omega | (simp only [sz_al, sz_sr, sz_dn]; omega))))), by rw [← h1]; exact (al (an' (by first | (simp only [sz_al, sz_sr, sz_dn]; done) | rfl | omega | (simp only [sz_al, sz_sr, sz_dn]; omega)))), by rw [← h2]; exact (an' (by first | (simp only [sz_al, sz_sr, sz_dn]; done) | rfl | omega | (simp only [sz_al, sz_sr, sz_dn]; omega))), by simp only [sz_al], (Fr.alloc (Fr.alloc (Fr.alloc hfr0 _) _) _)⟩

set_option maxRecDepth 100000 in
theorem iterRows {B : Nat} {T : List Tab} {t : Tab} {p : Pc} {bp bq : Nat} {rv tv : Value} (hti : T[p.ti]? = some t) (hlen : (rowsOf T p).length ≤ 100000) :
    Iter kap Ybaf.prog 21 #[.pointer (some ⟨bp, 0, none⟩), .pointer (some ⟨bq, 0, none⟩)] (rowsOf T p).length (fun i => #[.int .i64 (((rowsOf T p).getD i 0 : Nat) : Int)]) (MfR B T p bp bq rv tv) := by
  intro l W J Jx hM hJ hJx hY h0
  have htl : p.ti < T.length := (List.getElem?_eq_some_iff.1 hti).1
  have fin : ∀ (wr : World), J (rowsOf T p).length wr ∨ Jx wr → ∀ F, bodyD Ybaf.prog Ybaf.f21 (fun v W' => J (rowsOf T p).length W' ∨ Jx W') .ret [] F wr := fun wr h F =>
    ⟨[], rfl, ⟨List.nodup_nil, fun _ h => by cases h⟩, fun wF hF => ⟨.tuple #[], fun ds a ha => results_none rfl _ _ _, h.imp (fun h => hJ _ _ _ h (ItS.of_pure (hF.mono (fun _ _ h => by cases h)))) (fun h => hJx _ _ h (ItS.of_pure (hF.mono (fun _ _ h => by cases h))))⟩⟩
  refine (callsD_of (R := fun v W' => J (rowsOf T p).length W' ∨ Jx W') Ybaf.func21 rfl rfl ?_).mono (fun e w' h => h)
  have hm := hM 0 W h0
  have hpc := hm.pc
  have htb := hm.tb
  obtain ⟨bT, cT, rfl, hbT, hcT, hcell⟩ := hm.tabs.ex
  obtain ⟨bt, bc, hbt, htab⟩ := hcell p.ti t hti
  have hrow := htab.row
  rcases hm.rows.or with ⟨h1, rfl⟩ | ⟨rs, br, o, c, cap, h1, rfl, hbr, hcr, hrs⟩
  · have hR : rowsOf T p = List.range t.vals.length := by rw [rowsOf, h1]; simp [hti]
    rw [hR, List.length_range] at fin hlen hY ⊢
    refine WD.seq ?_
    refine WD.seq ?_
    have LT1 := lt_of hpc
    have LT2 := lt_of htb
    have LT14 := lt_of hrow
    have LT900 := lt_of hcT
    refine WD.region rfl ?_
    refine RL.val rfl (ex_fieldAddr (by conv => lhs; whnf) Ybaf.fo48_1) ?_
    refine RL.val rfl (ex_loadB (by conv => lhs; whnf) Ybaf.sc46 hpc (by conv => lhs; whnf)) ?_
    refine RL.val rfl (ex_eql_nilslice (by conv => lhs; whnf) (by conv => lhs; whnf) Ybaf.sl46) ?_
    refine RL.nil ?_
    refine WD.cond_true rfl ?_
    refine WD.seq ?_
    refine WD.seq ?_
    refine WD.region rfl ?_
    refine RL.val rfl (ex_loadB (by conv => lhs; whnf) Ybaf.sc27 htb (by conv => lhs; whnf)) ?_
    refine RL.val rfl (ex_fieldAddr (by conv => lhs; whnf) Ybaf.fo48_0) ?_
    refine RL.val rfl (ex_loadB (by conv => lhs; whnf) Ybaf.sc3 hpc (by conv => lhs; whnf)) ?_
    refine RL.val rfl (ex_ix1 (by conv => lhs; whnf) (by conv => lhs; whnf) Ybaf.sl27 Ybaf.sz52 rfl (by omega)) ?_
    refine RL.val rfl (ex_load (by conv => lhs; whnf) Ybaf.sc52 (cellOf hcT hbt)) ?_
    refine RL.val rfl (ex_nilCheck (by conv => lhs; whnf)) ?_
    refine RL.val rfl (ex_fieldAddr (by conv => lhs; whnf) Ybaf.fo51_1) ?_
    refine RL.val rfl (ex_loadB (by conv => lhs; whnf) Ybaf.sc3 hrow (by conv => lhs; whnf)) ?_
    refine RL.val rfl (ex_move (by conv => lhs; whnf)) ?_
    refine RL.nil ?_
    refine WD.block ?_
    refine WD.loopk (fun m ds F wr => ∃ i : Nat, m = t.vals.length - i ∧ i ≤ t.vals.length ∧ ds = [] ∧ Has F [(0, .func (.yield l) #[] #[]), (17, .int .i64 (t.vals.length : Nat)), (18, .int .i64 (i : Nat))] ∧ J i wr) t.vals.length ⟨0, rfl, Nat.zero_le _, rfl, ⟨rfl, rfl, rfl, trivial⟩, h0⟩ ?_
    rintro m ds F wr ⟨i, rfl, hi, rfl, hF, hj⟩ K hK
    obtain ⟨G, rfl⟩ := hF.get
    clear hF
    refine WD.seq ?_
    refine WD.region rfl ?_
    refine RL.val rfl (ex_lss (by conv => lhs; whnf) (by conv => lhs; whnf)) ?_
    refine RL.nil ?_
    refine WD.seq ?_
    refine WD.cond _ (by conv => lhs; whnf) (fun hlt1 => ?_) (fun hlt1 => ?_)
    rotate_left
    · have hik : i = t.vals.length := by have := of_decide_eq_false hlt1; omega
      refine WD.exit ?_
      repeat (first | refine thenD_exit ?_ | refine blockD_hit ?_ | refine blockD_miss rfl ?_)
      subst hik
      refine WD.ret ?_
      repeat (first | refine thenD_ret ?_ | refine blockD_ret ?_)
      exact fin wr (.inl hj) _
    have hik : i < t.vals.length := by have := of_decide_eq_true hlt1; omega
    refine WD.skip ?_
    refine WD.seq ?_
    refine WD.block ?_
    refine WD.seq ?_
    refine WD.region rfl ?_
    refine RL.val rfl (ex_move (by conv => lhs; whnf)) ?_
    refine RL.val rfl (ex_assign (by conv => lhs; whnf)) ?_
    refine RL.nil ?_
    refine WD.seq ?_
    refine WD.regionD ?_
    refine RD.val rfl (ex_move (by conv => lhs; whnf)) (fun _ h => by cases h) ?_
    refine RD.val rfl (ex_move (by conv => lhs; whnf)) (fun _ h => by cases h) ?_
    have hy := hY i wr hik hj
    have hg : (List.range t.vals.length).getD i 0 = i := by rw [List.getD_eq_getElem?_getD, List.getElem?_range hik]; rfl
    simp only [hg] at hy
    refine RD.yield1 rfl (by conv => lhs; whnf) (by conv => lhs; whnf) hy ?_
    rintro b w2 ⟨hko, hb1, hb0⟩
    refine RD.val rfl (ex_not (by conv => lhs; whnf)) (fun _ h => by cases h) ?_
    refine RD.nil ?_
    cases b with
    | true =>
      refine WD.cond_false rfl ?_
      refine WD.skip ?_
      refine WD.region rfl ?_
      refine RL.val rfl (ex_add (c := ((i + 1 : Nat) : Int)) (by conv => lhs; whnf) (by conv => lhs; whnf) (by rw [IntKind.wrap_i64]; omega)) ?_
      refine RL.val rfl (ex_move (by conv => lhs; whnf)) ?_
      refine RL.nil ?_
      exact hK (t.vals.length - (i + 1)) _ _ _ (by omega) ⟨i + 1, rfl, by omega, rfl, ⟨rfl, rfl, rfl, trivial⟩, hb1 rfl⟩
    | false =>
      refine WD.cond_true rfl ?_
      refine WD.ret ?_
      repeat (first | refine thenD_ret ?_ | refine blockD_ret ?_)
      exact fin w2 (.inr (hb0 rfl)) _
  · have hR : rowsOf T p = rs := by rw [rowsOf, h1]
    rw [hR] at fin hlen hY ⊢
    refine WD.seq ?_
    refine WD.seq ?_
    have LT1 := lt_of hpc
    refine WD.region rfl ?_
    refine RL.val rfl (ex_fieldAddr (by conv => lhs; whnf) Ybaf.fo48_1) ?_
    refine RL.val rfl (ex_loadB (by conv => lhs; whnf) Ybaf.sc46 hpc (by conv => lhs; whnf)) ?_
    refine RL.val rfl (ex_eql_nilslice (by conv => lhs; whnf) (by conv => lhs; whnf) Ybaf.sl46) ?_
    refine RL.nil ?_
    refine WD.cond_false rfl ?_
    refine WD.skip ?_
    refine WD.seq ?_
    refine WD.region rfl ?_
    refine RL.val rfl (ex_fieldAddr (by conv => lhs; whnf) Ybaf.fo48_1) ?_
    refine RL.val rfl (ex_loadB (by conv => lhs; whnf) Ybaf.sc46 hpc (by conv => lhs; whnf)) ?_
    refine RL.val rfl (ex_len (by conv => lhs; whnf) Ybaf.sl46) ?_
    refine RL.val rfl (ex_move (by conv => lhs; whnf)) ?_
    refine RL.nil ?_
    refine WD.block ?_
    refine WD.loopk (fun m ds F wr => ∃ i : Nat, m = rs.length - i ∧ i ≤ rs.length ∧ ds = [] ∧ Has F [(0, .func (.yield l) #[] #[]), (27, .slice (some ⟨br, o, none⟩) rs.length cap), (28, .int .i64 (rs.length : Nat)), (29, .int .i64 (i : Nat))] ∧ J i wr) rs.length ⟨0, rfl, Nat.zero_le _, rfl, ⟨rfl, rfl, rfl, rfl, trivial⟩, h0⟩ ?_
    rintro m ds F wr ⟨i, rfl, hi, rfl, hF, hj⟩ K hK
    obtain ⟨G, rfl⟩ := hF.get
    clear hF
    refine WD.seq ?_
    refine WD.region rfl ?_
    refine RL.val rfl (ex_lss (by conv => lhs; whnf) (by conv => lhs; whnf)) ?_
    refine RL.nil ?_
    refine WD.seq ?_
    refine WD.cond _ (by conv => lhs; whnf) (fun hlt1 => ?_) (fun hlt1 => ?_)
    rotate_left
    · have hik : i = rs.length := by have := of_decide_eq_false hlt1; omega
      refine WD.exit ?_
      repeat (first | refine thenD_exit ?_ | refine blockD_hit ?_ | refine blockD_miss rfl ?_)
      subst hik
      exact fin wr (.inl hj) _
    have hik : i < rs.length := by have := of_decide_eq_true hlt1; omega
    obtain ⟨r, hr⟩ : ∃ r, rs[i]? = some r := ⟨_, List.getElem?_eq_getElem hik⟩
    have hm2 := hM i wr hj
    have hcell2 : wr.cell? ⟨br, o + i, none⟩ = some (.int .i64 ((r : Nat) : Int)) := by
      rcases hm2.rows.or with ⟨h2, _⟩ | ⟨rs2, br2, o2, c2, cap2, h2, e2, _, hc2, hrs2⟩
      · rw [h1] at h2; cases h2
      · rw [h1] at h2
        cases h2
        cases e2
        exact cellOf hc2 (hrs2 i r hr)
    refine WD.skip ?_
    refine WD.seq ?_
    refine WD.block ?_
    refine WD.seq ?_
    refine WD.region rfl ?_
    refine RL.val rfl (ex_ixa (by conv => lhs; whnf) (by conv => lhs; whnf) Ybaf.sl46 Ybaf.sz3 rfl (by omega)) ?_
    refine RL.val rfl (ex_load (by conv => lhs; whnf) Ybaf.sc3 hcell2) ?_
    refine RL.val rfl (ex_assign (by conv => lhs; whnf)) ?_
    refine RL.nil ?_
    refine WD.seq ?_
    refine WD.regionD ?_
    refine RD.val rfl (ex_move (by conv => lhs; whnf)) (fun _ h => by cases h) ?_
    refine RD.val rfl (ex_move (by conv => lhs; whnf)) (fun _ h => by cases h) ?_
    have hy := hY i wr hik hj
    have hg : rs.getD i 0 = r := by rw [List.getD_eq_getElem?_getD, hr]; rfl
    simp only [hg] at hy
    refine RD.yield1 rfl (by conv => lhs; whnf) (by conv => lhs; whnf) hy ?_
    rintro b w2 ⟨hko, hb1, hb0⟩
    refine RD.val rfl (ex_not (by conv => lhs; whnf)) (fun _ h => by cases h) ?_
    refine RD.nil ?_
    cases b with
    | true =>
      refine WD.cond_false rfl ?_
      refine WD.skip ?_
      refine WD.region rfl ?_
      refine RL.val rfl (ex_add (c := ((i + 1 : Nat) : Int)) (by conv => lhs; whnf) (by conv => lhs; whnf) (by rw [IntKind.wrap_i64]; omega)) ?_
      refine RL.val rfl (ex_move (by conv => lhs; whnf)) ?_
      refine RL.nil ?_
      exact hK (rs.length - (i + 1)) _ _ _ (by omega) ⟨i + 1, rfl, by omega, rfl, ⟨rfl, rfl, rfl, rfl, trivial⟩, hb1 rfl⟩
    | false =>
      refine WD.cond_true rfl ?_
      refine WD.ret ?_
      repeat (first | refine thenD_ret ?_ | refine blockD_ret ?_)
      exact fin w2 (.inr (hb0 rfl)) _
end Go.Proofs.YbulknocFmt
