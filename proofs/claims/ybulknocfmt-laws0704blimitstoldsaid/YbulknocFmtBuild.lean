/- Tables and sources, built. -/
import Derived.Test.YbulknocFmtIn
namespace Go.Proofs.YbulknocFmt
open Go Go.Eng Go.RowKit
set_option linter.unusedSimpArgs false
set_option linter.unusedVariables false

def padB (l : List Bool) (n : Nat) : List Bool := (List.range n).map fun j => l.getD j false
def nullsOf (NS : List Nls) (i n : Nat) : Option (List Bool) := match NS[i]? with
  | some e => if e.a = none then none else some (padB e.l n)
  | none => none
def tabOf (NS : List Nls) (i : Nat) (t : Tms) : Tab := ⟨t.l, nullsOf NS i t.l.length⟩

section
variable {w w' : World} {B : Nat}
/-- Kept, where whatever is no row of tables is kept. -/
def Kp52 (B : Nat) (w w' : World) : Prop := ∀ k c T fz, k < B → w.heap[k]? = some (.cells c T fz) → Nat.beq T 52 = false → w'.heap[k]? = some (.cells c T fz)
theorem TabAt.keep52 {bt bc : Nat} {t : Tab} (h : TabAt w B bt bc t) (hk : Kp52 B w w') {B' : Nat} (hB : B ≤ B') : TabAt w' B' bt bc t := by
  obtain ⟨h1, h2, h3⟩ := h
  obtain ⟨c1, bv, nv, cv, c2, c3, c4, c5, c6⟩ := h3.ex
  refine ⟨Nat.lt_of_lt_of_le h1 hB, hk _ _ _ _ h1 h2 rfl, ⟨Nat.lt_of_lt_of_le c1 hB, bv, nv, cv, hk _ _ _ _ c1 c2 rfl, Nat.lt_of_lt_of_le c3 hB, hk _ _ _ _ c3 c4 rfl, c5, ⟨c6.or.imp id ?_⟩⟩⟩
  rintro ⟨l, bn, cn, n1, n2, n3, n4, n5⟩
  exact ⟨l, bn, cn, n1, n2, Nat.lt_of_lt_of_le n3 hB, hk _ _ _ _ n3 n4 rfl, n5⟩
theorem Kp52.of_fr {bT : Nat} {cT : Array Value} {fz : Nat × Nat} (h : Fr (fun k => k = bT) w w') (hT : w.heap[bT]? = some (.cells cT 52 fz)) (B : Nat) : Kp52 B w w' := fun k c T fz' _ hc ht => h.keep hc (fun e => by
  have e : k = bT := e
  subst e
  rw [hT] at hc
  cases hc
  cases ht)
end

/-- The tables up to 'i'. -/
structure TabsTo (w : World) (bT : Nat) (NS : List Nls) (TS : List Tms) (i : Nat) : Prop where
  ex : ∃ cT : Array Value, w.heap[bT]? = some (.cells cT 52 (0, 0)) ∧ cT.size = TS.length ∧ ∀ (j : Nat) t, j < i → TS[j]? = some t → ∃ bt bc, cT[j]? = some (.pointer (some ⟨bt, 0, none⟩)) ∧ TabAt w w.heap.size bt bc (tabOf NS j t)

def tabsOf (NS : List Nls) (TS : List Tms) : List Tab := TS.mapIdx fun i t => tabOf NS i t
theorem tabsOf_len (NS : List Nls) (TS : List Tms) : (tabsOf NS TS).length = TS.length := by simp [tabsOf]
theorem tabsOf_get {NS : List Nls} {TS : List Tms} {i : Nat} : (tabsOf NS TS)[i]? = (TS[i]?).map (tabOf NS i) := by simp [tabsOf]
def pcOf (T : List Tab) (s : Src) : Pc := ⟨s.table % T.length, if s.whole then none else some (if 0 < ((T[s.table % T.length]?.map (·.vals.length)).getD 0) then s.rows.map (· % ((T[s.table % T.length]?.map (·.vals.length)).getD 0)) else []), s.start, s.stop⟩
def pcCells (q : Pc × Value) : List Value := [.int .i64 (q.1.ti : Nat), q.2, .int .i64 q.1.start, .int .i64 q.1.stop]
/-- The sources up to 'i', with where their rows lie. -/
structure SrcTo (w : World) (Bs : Nat) (sv : Value) (P : List Pc) (pr : List (Pc × Value)) : Prop where
  own : w.ownsRow Bs 48 4 sv P.length (pr.flatMap pcCells)
  fst : pr.map (·.1) = P
  rows : ∀ q, q ∈ pr → RowsV w w.heap.size q.2 q.1.rows

theorem RowsV.keepT {w w' : World} {B B' : Nat} {rv : Value} {rows : Option (List Nat)} (h : RowsV w B rv rows) (hk : ∀ k c fz, k < B → w.heap[k]? = some (.cells c 3 fz) → w'.heap[k]? = some (.cells c 3 fz)) (hB : B ≤ B') : RowsV w' B' rv rows :=
  ⟨h.or.imp id fun ⟨l, br, o, c, cap, h1, h2, h3, h4, h5⟩ => ⟨l, br, o, c, cap, h1, h2, Nat.lt_of_lt_of_le h3 hB, hk _ _ _ h3 h4, h5⟩⟩
theorem rows_of_own {w : World} {Br g cap : Nat} {l : List Nat} (h : w.ownsRow Br 3 1 (.slice (some ⟨g, 0, none⟩) l.length cap) l.length ((ints l).map fun z => Value.int .i64 z)) : RowsV w w.heap.size (.slice (some ⟨g, 0, none⟩) l.length cap) (some l) := by
  rcases h.2 with ⟨h0, _⟩ | ⟨g', cap', cur, hv, hb, hg, hnc, _, _, ht⟩
  · cases h0
  · cases hv
    refine ⟨.inr ⟨l, g, 0, cur, cap, rfl, rfl, lt_of hg, hg, fun j r hr => ?_⟩⟩
    have hj := (List.getElem?_eq_some_iff.1 hr).1
    have : ((ints l).map fun z => Value.int .i64 z)[j]? = some (.int .i64 ((r : Nat) : Int)) := by simp [ints, hr]
    rw [← ht, List.getElem?_take, if_pos (by omega)] at this
    rw [Nat.zero_add]
    simpa using this

theorem own_made {w : World} {q e size cap : Nat} {cur : Array Value} (hq : w.heap.size = q) (hm : cap ≤ 1000000) (hs : cur.size = cap * size) : (w.alloc (.cells cur e)).ownsRow q e size (.slice (some ⟨q, 0, none⟩) 0 cap) 0 [] := by
  subst hq
  exact World.ownsRow_made w cur cap (Nat.le_refl _) (by simp only [maxLen]; omega) hs

theorem NullAt.keep52 {w w' : World} {B : Nat} {nv : Value} {nulls : Option (List Bool)} (h : NullAt w B nv nulls) (hk : Kp52 B w w') {B' : Nat} (hB : B ≤ B') : NullAt w' B' nv nulls := by
  refine ⟨h.or.imp id ?_⟩
  rintro ⟨l, bn, cn, n1, n2, n3, n4, n5⟩
  exact ⟨l, bn, cn, n1, n2, Nat.lt_of_lt_of_le n3 hB, hk _ _ _ _ n3 n4 rfl, n5⟩
theorem tabs_step {wr w3 wF : World} {bT i bt bc bv : Nat} {NS : List Nls} {TS : List Tms} {t : Tms} {cT cv : Array Value} {nv : Value} (hto : TabsTo wr bT NS TS i) (htt : TS[i]? = some t) (hcT : wr.heap[bT]? = some (.cells cT 52 (0, 0)))
    (hf3 : Fr (fun _ => False) wr w3) (hnull : NullAt w3 w3.heap.size nv (nullsOf NS i t.l.length)) (hF : Fr (fun k => k = bT) w3 wF)
    (hcF : wF.heap[bT]? = some (.cells (cT.setIfInBounds i (.pointer (some ⟨bt, 0, none⟩))) 52 (0, 0)))
    (hrow : wF.heap[bt]? = some (.cells #[.slice (some ⟨bc, 0, none⟩) 1 1, .int .i64 (t.l.length : Nat)] 51 (0, 0)))
    (hcol : wF.heap[bc]? = some (.cells #[.string TIME, .bool false, .iface 59 (.slice (some ⟨bv, 0, none⟩) t.l.length t.l.length), nv] 64 (0, 0)))
    (hv : wF.heap[bv]? = some (.cells cv 2 (0, 0))) (hcvt : ∀ (j : Nat) v, t.l[j]? = some v → cv[j]? = some (.int .i64 v)) : TabsTo wF bT NS TS (i + 1) := by
  obtain ⟨cT', hcT', hcs, hct⟩ := hto.ex
  rw [hcT] at hcT'
  cases hcT'
  have hcT3 := hf3.keep hcT id
  have hsz := hf3.size
  have hszF := hF.size
  have hk1 : Kp52 wr.heap.size wr wF := fun k c T fz hlt hc hT => Kp52.of_fr hF hcT3 w3.heap.size k c T fz (by omega) (hf3.keep hc id) hT
  refine ⟨_, hcF, by simp [hcs], fun j t' hj ht' => ?_⟩
  by_cases hji : j = i
  · subst hji
    rw [htt] at ht'
    cases ht'
    have hi : j < TS.length := (List.getElem?_eq_some_iff.1 htt).1
    exact ⟨bt, bc, by simp [hcs, hi], lt_of hrow, hrow, ⟨lt_of hcol, bv, nv, cv, hcol, lt_of hv, hv, hcvt, hnull.keep52 (Kp52.of_fr hF hcT3 _) hszF⟩⟩
  · obtain ⟨bt', bc', h1, h2⟩ := hct j t' (by omega) ht'
    exact ⟨bt', bc', by rw [Array.getElem?_setIfInBounds_ne (by omega)]; exact h1, h2.keep52 hk1 (by omega)⟩

set_option maxRecDepth 100000 in
theorem build {w : World} {B : Nat} {ta na sa : Option Addr} {tc nc sc : Nat} {TS : List Tms} {NS : List Nls} {SS : List Src} (hB : B = w.heap.size) (ht : TimesAt w B ta TS) (hn : NullsAt w B na NS) (hs : SrcsAt w B sa SS)
    (hT : TS.length ≤ 256) (hS : SS.length ≤ 256) (hTl : ∀ t, t ∈ TS → t.l.length ≤ 256) (hSl : ∀ s, s ∈ SS → s.rows.length ≤ 256)
    : Calls Ybaf.prog 6 #[.slice ta TS.length tc, .slice na NS.length nc, .slice sa SS.length sc] w fun e' w' => ∃ r, e' = .returned r ∧
      (∃ sv pr Bs, r = .tuple #[.slice (some ⟨B, 0, none⟩) TS.length TS.length, sv] ∧ TabsTo w' B NS TS TS.length ∧ Fr (fun k => B ≤ k) w w' ∧ B ≤ Bs ∧ (TS = [] → sv = .slice none 0 0) ∧ (TS ≠ [] → SrcTo w' Bs sv (SS.map (pcOf (tabsOf NS TS))) pr)) := by
  have hfr0 : Fr (fun k => B ≤ k) w w := Fr.refl w
  refine calls_of Ybaf.func6 rfl rfl ?_
  refine WP.seq ?_
  have FRsz := Fr.size hfr0
  refine WP.region ?_
  refine RL.val rfl (ex_assign (by conv => lhs; whnf)) ?_
  refine RL.val rfl (ex_assign (by conv => lhs; whnf)) ?_
  refine RL.nil ?_
  refine WP.seq ?_
  refine WP.region ?_
  refine RL.val rfl (ex_move (by conv => lhs; whnf)) ?_
  refine RL.val rfl (ex_len (by conv => lhs; whnf) Ybaf.sl22) ?_
  refine RL.val rfl (ex_makeSlice (q := w.heap.size) (by conv => lhs; whnf) (by conv => lhs; whnf) Ybaf.sl27 Ybaf.in52 (Nat.le_refl _) (by omega) (by omega) rfl) ?_
  refine RL.val rfl (ex_assign (by conv => lhs; whnf)) ?_
  refine RL.nil ?_
  refine WP.seqc (fun F wr => Has F [(0, .slice ta TS.length tc), (1, .slice na NS.length nc), (2, .slice sa SS.length sc), (8, .slice (some ⟨B, 0, none⟩) TS.length TS.length)] ∧ TabsTo wr B NS TS TS.length ∧ Fr (fun k => B ≤ k) w wr) ?_ ?_
  · refine WP.seq ?_
    refine WP.region ?_
    refine RL.val rfl (ex_move (by conv => lhs; whnf)) ?_
    refine RL.val rfl (ex_len (by conv => lhs; whnf) Ybaf.sl22) ?_
    refine RL.val rfl (ex_move (by conv => lhs; whnf)) ?_
    refine RL.nil ?_
    refine WP.block ?_
    refine WP.loopk (fun m F wr => ∃ i : Nat, m = TS.length - i ∧ i ≤ TS.length ∧ Has F [(0, .slice ta TS.length tc), (1, .slice na NS.length nc), (2, .slice sa SS.length sc), (8, .slice (some ⟨B, 0, none⟩) TS.length TS.length), (29, .slice ta TS.length tc), (30, .int .i64 (TS.length : Nat)), (31, .int .i64 (i : Nat))] ∧
      TabsTo wr B NS TS i ∧ Fr (fun k => B ≤ k) w wr) TS.length
      ⟨0, rfl, Nat.zero_le _, ⟨rfl, rfl, rfl, (by rw [hB]; rfl), rfl, rfl, rfl, trivial⟩, ⟨_, by rw [hB]; exact (an' (by first | (simp only [sz_al, sz_sr, sz_dn]; done) | rfl | omega | (simp only [sz_al, sz_sr, sz_dn]; omega))), by rw [size_madeCells]; omega, fun j t hj => by omega⟩, (Fr.alloc hfr0 _)⟩ ?_
    rintro m F wr ⟨i, rfl, hi, hF, hto, hfr⟩ K hK
    obtain ⟨G, rfl⟩ := hF.get
    clear hF
    obtain ⟨cT, hcT, hcs, hct⟩ := hto.ex
    refine WP.seq ?_
    have FRsz := Fr.size hfr
    refine WP.region ?_
    refine RL.val rfl (ex_lss (by conv => lhs; whnf) (by conv => lhs; whnf)) ?_
    refine RL.nil ?_
    refine WP.seq ?_
    refine WP.cond _ (by conv => lhs; whnf) (fun hlt1 => ?_) (fun hlt1 => ?_)
    rotate_left
    · have hik : i = TS.length := by have := of_decide_eq_false hlt1; omega
      refine WP.exit ?_
      repeat (first | refine thenQ_exit ?_ | refine blockQ_hit ?_ | refine blockQ_miss rfl ?_)
      rw [hik] at hto
      exact ⟨⟨rfl, rfl, rfl, rfl, trivial⟩, hto, hfr⟩
    have hik : i < TS.length := by have := of_decide_eq_true hlt1; omega
    obtain ⟨t, htt⟩ : ∃ t, TS[i]? = some t := ⟨_, List.getElem?_eq_getElem hik⟩
    have htl := hTl t (List.mem_of_getElem? htt)
    have ht2 := ht.keep hfr
    have hn2 := hn.keep hfr
    obtain ⟨bb, oo, rfl, hbb, hc⟩ := ht2.at_ i t htt
    refine WP.skip ?_
    refine WP.seq ?_
    refine WP.block ?_
    refine WP.seq ?_
    refine WP.region ?_
    refine RL.val rfl (ex_move (by conv => lhs; whnf)) ?_
    refine RL.val rfl (ex_ixa (by conv => lhs; whnf) (by conv => lhs; whnf) Ybaf.sl22 Ybaf.sz54 rfl (by omega)) ?_
    refine RL.val rfl (ex_load (by conv => lhs; whnf) Ybaf.sc54 hc) ?_
    refine RL.val rfl (ex_assign (by conv => lhs; whnf)) ?_
    refine RL.val rfl (ex_assign (by conv => lhs; whnf)) ?_
    refine RL.nil ?_
    refine WP.seq ?_
    refine WP.region ?_
    refine RL.val rfl (ex_move (by conv => lhs; whnf)) ?_
    refine RL.val rfl (ex_len (by conv => lhs; whnf) Ybaf.sl54) ?_
    refine RL.val rfl (ex_makeSlice (q := wr.heap.size) (by conv => lhs; whnf) (by conv => lhs; whnf) Ybaf.sl59 Ybaf.in2 (Nat.le_refl _) (by omega) (by omega) rfl) ?_
    refine RL.val rfl (ex_assign (by conv => lhs; whnf)) ?_
    refine RL.nil ?_
    have hfrW : Fr (fun _ => False) wr (wr.alloc (.cells (madeCells (Value.int .i64 0).cells (t.l.length * 1)) 2)) := (Fr.refl wr).alloc _
    refine WP.seqc (fun F w2 => Has F [(0, .slice (some ⟨bb, oo, none⟩) TS.length tc), (1, .slice na NS.length nc), (2, .slice sa SS.length sc), (8, .slice (some ⟨B, 0, none⟩) TS.length TS.length), (9, .int .i64 (i : Nat)), (10, .slice t.a t.l.length t.c), (11, .slice (some ⟨wr.heap.size, 0, none⟩) t.l.length t.l.length), (29, .slice (some ⟨bb, oo, none⟩) TS.length tc), (30, .int .i64 (TS.length : Nat)), (31, .int .i64 (i : Nat))] ∧
      (∃ cv : Array Value, w2.heap[wr.heap.size]? = some (.cells cv 2 (0, 0)) ∧ ∀ (j : Nat) v, t.l[j]? = some v → cv[j]? = some (.int .i64 v)) ∧ Fr (fun _ => False) wr w2) ?_ ?_
    · refine WP.seq ?_
      refine WP.region ?_
      refine RL.val rfl (ex_move (by conv => lhs; whnf)) ?_
      refine RL.val rfl (ex_len (by conv => lhs; whnf) Ybaf.sl54) ?_
      refine RL.val rfl (ex_move (by conv => lhs; whnf)) ?_
      refine RL.nil ?_
      refine WP.block ?_
      refine WP.loopk (fun m F w2 => ∃ q : Nat, m = t.l.length - q ∧ q ≤ t.l.length ∧ Has F [(0, .slice (some ⟨bb, oo, none⟩) TS.length tc), (1, .slice na NS.length nc), (2, .slice sa SS.length sc), (8, .slice (some ⟨B, 0, none⟩) TS.length TS.length), (9, .int .i64 (i : Nat)), (10, .slice t.a t.l.length t.c), (11, .slice (some ⟨wr.heap.size, 0, none⟩) t.l.length t.l.length), (29, .slice (some ⟨bb, oo, none⟩) TS.length tc), (30, .int .i64 (TS.length : Nat)), (31, .int .i64 (i : Nat)), (39, .slice t.a t.l.length t.c), (40, .int .i64 (t.l.length : Nat)), (41, .int .i64 (q : Nat))] ∧
        (∃ cv : Array Value, w2.heap[wr.heap.size]? = some (.cells cv 2 (0, 0)) ∧ cv.size = t.l.length ∧ ∀ (j : Nat) v, j < q → t.l[j]? = some v → cv[j]? = some (.int .i64 v)) ∧ Fr (fun _ => False) wr w2) t.l.length
        ⟨0, rfl, Nat.zero_le _, ⟨rfl, rfl, rfl, rfl, rfl, rfl, rfl, rfl, rfl, rfl, rfl, rfl, rfl, trivial⟩, ⟨_, an' rfl, by rw [size_madeCells]; omega, fun j v hj => by omega⟩, hfrW⟩ ?_
      rintro m F w2 ⟨q, rfl, hq, hF, ⟨cv, hcv, hcvs, hcvt⟩, hf2⟩ K2 hK2
      obtain ⟨G, rfl⟩ := hF.get
      clear hF
      refine WP.seq ?_
      have LT900 := lt_of hcv
      have FRsz := Fr.size hf2
      refine WP.region ?_
      refine RL.val rfl (ex_lss (by conv => lhs; whnf) (by conv => lhs; whnf)) ?_
      refine RL.nil ?_
      refine WP.seq ?_
      refine WP.cond _ (by conv => lhs; whnf) (fun hlt2 => ?_) (fun hlt2 => ?_)
      rotate_left
      · have hqk : q = t.l.length := by have := of_decide_eq_false hlt2; omega
        refine WP.exit ?_
        repeat (first | refine thenQ_exit ?_ | refine blockQ_hit ?_ | refine blockQ_miss rfl ?_)
        exact ⟨⟨rfl, rfl, rfl, rfl, rfl, rfl, rfl, rfl, rfl, rfl, trivial⟩, ⟨cv, hcv, fun j v hv => hcvt j v (by have := (List.getElem?_eq_some_iff.1 hv).1; omega) hv⟩, hf2⟩
      have hqk : q < t.l.length := by have := of_decide_eq_true hlt2; omega
      obtain ⟨z, hz⟩ : ∃ z, t.l[q]? = some z := ⟨_, List.getElem?_eq_getElem hqk⟩
      obtain ⟨⟨ib, io, hia, hib, hic⟩, hz1, hz2⟩ := ht2.in_ i t htt q z hz
      rw [hia]
      refine WP.skip ?_
      refine WP.seq ?_
      refine WP.block ?_
      refine WP.seq ?_
      refine WP.region ?_
      refine RL.val rfl (ex_move (by conv => lhs; whnf)) ?_
      refine RL.val rfl (ex_ixa (by conv => lhs; whnf) (by conv => lhs; whnf) Ybaf.sl54 Ybaf.sz25 rfl (by omega)) ?_
      refine RL.val rfl (ex_load (by conv => lhs; whnf) Ybaf.sc25 (hf2.cell hic id)) ?_
      refine RL.val rfl (ex_assign (by conv => lhs; whnf)) ?_
      refine RL.val rfl (ex_assign (by conv => lhs; whnf)) ?_
      refine RL.nil ?_
      refine WP.region ?_
      refine RL.val rfl (ex_move (by conv => lhs; whnf)) ?_
      refine RL.val rfl (ex_move (by conv => lhs; whnf)) ?_
      refine RL.val rfl (ex_move (by conv => lhs; whnf)) ?_
      refine RL.val rfl (ex_convert (by conv => lhs; whnf) Ybaf.cv25_2 Ybaf.kd2 (wrap_i64 (by omega) (by omega))) ?_
      refine RL.val rfl (ex_ix1 (by conv => lhs; whnf) (by conv => lhs; whnf) Ybaf.sl59 Ybaf.sz2 rfl (by omega)) ?_
      refine RL.unit (ex_store (by conv => lhs; whnf) (by conv => lhs; whnf) Ybaf.sc2 rfl hcv (by simp; omega)) ?_
      refine RL.nil ?_
      refine WP.region ?_
      refine RL.val rfl (ex_add (c := ((q + 1 : Nat) : Int)) (by conv => lhs; whnf) (by conv => lhs; whnf) (by rw [IntKind.wrap_i64]; omega)) ?_
      refine RL.val rfl (ex_move (by conv => lhs; whnf)) ?_
      refine RL.nil ?_
      refine hK2 (t.l.length - (q + 1)) _ _ (by omega) ⟨q + 1, rfl, by omega, ⟨rfl, rfl, rfl, rfl, rfl, (by rw [hia]; rfl), rfl, rfl, rfl, rfl, (by rw [hia]; rfl), rfl, rfl, trivial⟩, ⟨_, (sr_eq hcv), by simp [hcvs], fun j v hj hv => ?_⟩, hf2.set _ _ (fun hh => absurd hh (by omega))⟩
      by_cases hjq : j = q
      · subst hjq
        rw [hz] at hv
        cases hv
        simp [hcvs, hqk]
      · rw [Array.getElem?_setIfInBounds_ne (by omega)]
        exact hcvt j v (by omega) hv
    rintro F w2 ⟨hF, ⟨cv, hcv, hcvt⟩, hf2⟩
    obtain ⟨G, rfl⟩ := hF.get
    clear hF
    have hn3 := hn2.keep (Fr.up (B := B) hf2)
    have hsz2 := hf2.size
    have hltv := lt_of hcv
    refine WP.seq ?_
    have LT901 := lt_of hcv
    have FRsz := Fr.size hf2
    refine WP.region ?_
    refine RL.val rfl (ex_move (by conv => lhs; whnf)) ?_
    refine RL.val rfl (ex_makeInterface (by conv => lhs; whnf) Ybaf.pl59) ?_
    refine RL.val rfl (Ybaf.bl64_0_2 (by conv => lhs; whnf) rfl (by conv => lhs; whnf) rfl) ?_
    refine RL.val rfl (ex_alloc Ybaf.zo64 (by first | (conv => lhs; simp only [sz_al, sz_sr, sz_dn]) | rfl)) ?_
    refine RL.unit (ex_storeW (by conv => lhs; whnf) (by conv => lhs; whnf) Ybaf.ag64 (an' (by first | (simp only [sz_al, sz_sr, sz_dn]; done) | rfl | omega | (simp only [sz_al, sz_sr, sz_dn]; omega))) (by rfl) (by rfl) (by rfl)) ?_
    refine RL.nil ?_
    obtain ⟨b14, hb14⟩ : ∃ b, b = w2.heap.size := ⟨_, rfl⟩
    refine WP.seqc (fun F w3 => ∃ nv, Has F [(0, .slice (some ⟨bb, oo, none⟩) TS.length tc), (1, .slice na NS.length nc), (2, .slice sa SS.length sc), (8, .slice (some ⟨B, 0, none⟩) TS.length TS.length), (9, .int .i64 (i : Nat)), (10, .slice t.a t.l.length t.c), (14, .pointer (some ⟨b14, 0, none⟩)), (29, .slice (some ⟨bb, oo, none⟩) TS.length tc), (30, .int .i64 (TS.length : Nat)), (31, .int .i64 (i : Nat))] ∧
      w3.heap[b14]? = some (.cells #[.string TIME, .bool false, .iface 59 (.slice (some ⟨wr.heap.size, 0, none⟩) t.l.length t.l.length), nv] 64 (0, 0)) ∧ NullAt w3 w3.heap.size nv (nullsOf NS i t.l.length) ∧ w3.heap[wr.heap.size]? = some (.cells cv 2 (0, 0)) ∧ Fr (fun _ => False) wr w3 ∧ nv.oneCell' = true) ?_ ?_
    · refine WP.seq ?_
      rw [hb14]
      cases hNi : NS[i]? with
      | none =>
        have hd : decide ((i : Int) < (NS.length : Int)) = false := decide_eq_false (by have := List.getElem?_eq_none_iff.1 hNi; omega)
        refine WP.region ?_
        refine RL.val rfl (ex_move (by conv => lhs; whnf)) ?_
        refine RL.val rfl (ex_move (by conv => lhs; whnf)) ?_
        refine RL.val rfl (ex_len (by conv => lhs; whnf) Ybaf.sl23) ?_
        refine RL.val rfl (ex_lss (by conv => lhs; whnf) (by conv => lhs; whnf)) ?_
        refine RL.val rfl (ex_move (by conv => lhs; whnf)) ?_
        refine RL.skip (dj := 59) (b := false) rfl rfl (congrArg Value.bool hd) rfl ?_
        refine RL.skip (dj := 59) (b := false) rfl rfl (congrArg Value.bool hd) rfl ?_
        refine RL.skip (dj := 59) (b := false) rfl rfl (congrArg Value.bool hd) rfl ?_
        refine RL.skip (dj := 59) (b := false) rfl rfl (congrArg Value.bool hd) rfl ?_
        refine RL.skip (dj := 59) (b := false) rfl rfl (congrArg Value.bool hd) rfl ?_
        refine RL.val rfl (ex_pick_f (congrArg Value.bool hd) (by conv => lhs; whnf)) ?_
        refine RL.nil ?_
        refine WP.cond_false rfl ?_
        refine WP.skip ?_
        exact ⟨_, ⟨rfl, rfl, rfl, rfl, rfl, rfl, rfl, rfl, rfl, rfl, trivial⟩, (sr_eq (an' (by first | (simp only [sz_al, sz_sr, sz_dn]; done) | rfl | omega | (simp only [sz_al, sz_sr, sz_dn]; omega)))), ⟨.inl ⟨by simp [nullsOf, hNi], rfl⟩⟩, (sr_ne (al hcv) (by (try simp only [sz_al, sz_sr, sz_dn]); omega)), (Fr.set (Fr.alloc hf2 _) _ _ (fun hh => by first | exact rfl | exact .inl rfl | exact .inr (.inl rfl) | exact .inr (.inr rfl) | ((try simp only [sz_al, sz_sr, sz_dn] at hh); (try simp only [sz_al, sz_sr, sz_dn]); (first | omega | (dsimp only; omega) | exact .inl rfl | exact .inr (.inl rfl))))), rfl⟩
      | some e =>
        have hil := (List.getElem?_eq_some_iff.1 hNi).1
        have hd : decide ((i : Int) < (NS.length : Int)) = true := decide_eq_true (by omega)
        obtain ⟨nb, no, rfl, hnb, hnc⟩ := hn3.at_ i e hNi
        have hnc' := Fr.cell (S := fun k => w2.heap.size ≤ k) (w' := (w2.alloc (.cells (Value.agg #[Value.string ⟨#[]⟩, .bool false, .nilIface, .slice none 0 0]).cells 64)).setRow w2.heap.size #[.string TIME, .bool false, .iface 59 (.slice (some ⟨wr.heap.size, 0, none⟩) t.l.length t.l.length), .slice none 0 0]) (((Fr.refl w2).alloc _).set _ _ (fun hh => Nat.le_refl _)) hnc (by show ¬ w2.heap.size ≤ nb; have := hfr.size; omega)
        refine WP.region ?_
        refine RL.val rfl (ex_move (by conv => lhs; whnf)) ?_
        refine RL.val rfl (ex_move (by conv => lhs; whnf)) ?_
        refine RL.val rfl (ex_len (by conv => lhs; whnf) Ybaf.sl23) ?_
        refine RL.val rfl (ex_lss (by conv => lhs; whnf) (by conv => lhs; whnf)) ?_
        refine RL.val rfl (ex_move (by conv => lhs; whnf)) ?_
        refine RL.take (dj := 59) rfl (congrArg Value.bool hd) ?_
        refine RL.val rfl (ex_move (by conv => lhs; whnf)) ?_
        refine RL.take (dj := 59) rfl (congrArg Value.bool hd) ?_
        refine RL.val rfl (ex_move (by conv => lhs; whnf)) ?_
        refine RL.take (dj := 59) rfl (congrArg Value.bool hd) ?_
        refine RL.val rfl (ex_ixa (by conv => lhs; whnf) (by conv => lhs; whnf) Ybaf.sl23 Ybaf.sz62 rfl (by omega)) ?_
        refine RL.take (dj := 59) rfl (congrArg Value.bool hd) ?_
        refine RL.val rfl (ex_load (by conv => lhs; whnf) Ybaf.sc62 hnc') ?_
        refine RL.take (dj := 59) rfl (congrArg Value.bool hd) ?_
        refine RL.val rfl (ex_neq_nilslice (by conv => lhs; whnf) (by conv => lhs; whnf) Ybaf.sl62) ?_
        refine RL.val rfl (ex_pick_t (congrArg Value.bool hd) (by conv => lhs; whnf)) ?_
        refine RL.nil ?_
        cases hea : e.a with
        | none =>
          refine WP.cond_false rfl ?_
          refine WP.skip ?_
          exact ⟨_, ⟨rfl, rfl, rfl, rfl, rfl, rfl, rfl, rfl, rfl, rfl, trivial⟩, (sr_eq (an' (by first | (simp only [sz_al, sz_sr, sz_dn]; done) | rfl | omega | (simp only [sz_al, sz_sr, sz_dn]; omega)))), ⟨.inl ⟨by simp [nullsOf, hNi, hea], rfl⟩⟩, (sr_ne (al hcv) (by (try simp only [sz_al, sz_sr, sz_dn]); omega)), (Fr.set (Fr.alloc hf2 _) _ _ (fun hh => by first | exact rfl | exact .inl rfl | exact .inr (.inl rfl) | exact .inr (.inr rfl) | ((try simp only [sz_al, sz_sr, sz_dn] at hh); (try simp only [sz_al, sz_sr, sz_dn]); (first | omega | (dsimp only; omega) | exact .inl rfl | exact .inr (.inl rfl))))), rfl⟩
        | some ea =>
          refine WP.cond_true rfl ?_
          refine WP.seq ?_
          refine WP.region ?_
          refine RL.val rfl (ex_move (by conv => lhs; whnf)) ?_
          refine RL.val rfl (ex_len (by conv => lhs; whnf) Ybaf.sl54) ?_
          refine RL.val rfl (ex_makeSlice (q := w2.heap.size + 1) (by conv => lhs; whnf) (by conv => lhs; whnf) Ybaf.sl62 Ybaf.in4 (Nat.le_refl _) (by omega) (by omega) (by first | (simp only [sz_al, sz_sr, sz_dn]; done) | rfl | omega | (simp only [sz_al, sz_sr, sz_dn]; omega))) ?_
          refine RL.val rfl (ex_assign (by conv => lhs; whnf)) ?_
          refine RL.nil ?_
          refine WP.seqc (fun F w4 => ∃ cn, Has F [(0, .slice (some ⟨bb, oo, none⟩) TS.length tc), (1, .slice (some ⟨nb, no, none⟩) NS.length nc), (2, .slice sa SS.length sc), (8, .slice (some ⟨B, 0, none⟩) TS.length TS.length), (9, .int .i64 (i : Nat)), (10, .slice t.a t.l.length t.c), (14, .pointer (some ⟨w2.heap.size, 0, none⟩)), (15, .slice (some ⟨w2.heap.size + 1, 0, none⟩) t.l.length t.l.length), (29, .slice (some ⟨bb, oo, none⟩) TS.length tc), (30, .int .i64 (TS.length : Nat)), (31, .int .i64 (i : Nat))] ∧
            w4.heap[w2.heap.size]? = some (.cells #[.string TIME, .bool false, .iface 59 (.slice (some ⟨wr.heap.size, 0, none⟩) t.l.length t.l.length), .slice none 0 0] 64 (0, 0)) ∧ w4.heap[w2.heap.size + 1]? = some (.cells cn 4 (0, 0)) ∧ (∀ j, j < t.l.length → cn[j]? = some (.bool (e.l.getD j false))) ∧
            w4.heap[wr.heap.size]? = some (.cells cv 2 (0, 0)) ∧ Fr (fun _ => False) wr w4) ?_ ?_
          · refine WP.seq ?_
            refine WP.region ?_
            refine RL.val rfl (ex_move (by conv => lhs; whnf)) ?_
            refine RL.val rfl (ex_len (by conv => lhs; whnf) Ybaf.sl62) ?_
            refine RL.val rfl (ex_move (by conv => lhs; whnf)) ?_
            refine RL.nil ?_
            refine WP.block ?_
            refine WP.loopk (fun m F w4 => ∃ (q : Nat) (cn : Array Value), m = t.l.length - q ∧ q ≤ t.l.length ∧ Has F [(0, .slice (some ⟨bb, oo, none⟩) TS.length tc), (1, .slice (some ⟨nb, no, none⟩) NS.length nc), (2, .slice sa SS.length sc), (8, .slice (some ⟨B, 0, none⟩) TS.length TS.length), (9, .int .i64 (i : Nat)), (10, .slice t.a t.l.length t.c), (14, .pointer (some ⟨w2.heap.size, 0, none⟩)), (15, .slice (some ⟨w2.heap.size + 1, 0, none⟩) t.l.length t.l.length), (29, .slice (some ⟨bb, oo, none⟩) TS.length tc), (30, .int .i64 (TS.length : Nat)), (31, .int .i64 (i : Nat)), (70, .int .i64 (t.l.length : Nat)), (71, .int .i64 (q : Nat))] ∧
              w4.heap[w2.heap.size]? = some (.cells #[.string TIME, .bool false, .iface 59 (.slice (some ⟨wr.heap.size, 0, none⟩) t.l.length t.l.length), .slice none 0 0] 64 (0, 0)) ∧ w4.heap[w2.heap.size + 1]? = some (.cells cn 4 (0, 0)) ∧ cn.size = t.l.length ∧ (∀ j, j < t.l.length → cn[j]? = some (.bool (if j < q then e.l.getD j false else false))) ∧
              w4.heap[wr.heap.size]? = some (.cells cv 2 (0, 0)) ∧ Fr (fun _ => False) wr w4) t.l.length
              ⟨0, _, rfl, Nat.zero_le _, ⟨rfl, rfl, rfl, rfl, rfl, rfl, rfl, rfl, rfl, rfl, rfl, rfl, rfl, trivial⟩, (al (sr_eq (an' (by first | (simp only [sz_al, sz_sr, sz_dn]; done) | rfl | omega | (simp only [sz_al, sz_sr, sz_dn]; omega))))), (an' (by first | (simp only [sz_al, sz_sr, sz_dn]; done) | rfl | omega | (simp only [sz_al, sz_sr, sz_dn]; omega))), by rw [size_madeCells]; omega, fun j hj => by simp [madeCells, hj, Value.cells, Nat.mod_one], (al (sr_ne (al hcv) (by (try simp only [sz_al, sz_sr, sz_dn]); omega))), (Fr.alloc (Fr.set (Fr.alloc hf2 _) _ _ (fun hh => by first | exact rfl | exact .inl rfl | exact .inr (.inl rfl) | exact .inr (.inr rfl) | ((try simp only [sz_al, sz_sr, sz_dn] at hh); (try simp only [sz_al, sz_sr, sz_dn]); (first | omega | (dsimp only; omega) | exact .inl rfl | exact .inr (.inl rfl))))) _)⟩ ?_
            rintro m F w4 ⟨q, cn, rfl, hq, hF, h14, h15, hcs2, hct2, hv4, hf4⟩ K2 hK2
            obtain ⟨G, rfl⟩ := hF.get
            clear hF
            have hn4 := hn2.keep (Fr.up (B := B) hf4)
            obtain ⟨nb2, no2, he2, hnb2, hnc2⟩ := hn4.at_ i e hNi
            cases he2
            refine WP.seq ?_
            have LT900 := lt_of h15
            have LT14 := lt_of h14
            have LT901 := lt_of hv4
            have FRsz := Fr.size hf4
            refine WP.region ?_
            refine RL.val rfl (ex_lss (by conv => lhs; whnf) (by conv => lhs; whnf)) ?_
            refine RL.nil ?_
            refine WP.seq ?_
            refine WP.cond _ (by conv => lhs; whnf) (fun hlt2 => ?_) (fun hlt2 => ?_)
            rotate_left
            · have hqk : q = t.l.length := by have := of_decide_eq_false hlt2; omega
              refine WP.exit ?_
              repeat (first | refine thenQ_exit ?_ | refine blockQ_hit ?_ | refine blockQ_miss rfl ?_)
              exact ⟨cn, ⟨rfl, rfl, rfl, rfl, rfl, rfl, rfl, rfl, rfl, rfl, rfl, trivial⟩, h14, h15, fun j hj => by have := hct2 j hj; rw [if_pos (by omega)] at this; exact this, hv4, hf4⟩
            have hqk : q < t.l.length := by have := of_decide_eq_true hlt2; omega
            refine WP.skip ?_
            refine WP.seq ?_
            refine WP.block ?_
            refine WP.seq ?_
            refine WP.region ?_
            refine RL.val rfl (ex_move (by conv => lhs; whnf)) ?_
            refine RL.val rfl (ex_assign (by conv => lhs; whnf)) ?_
            refine RL.nil ?_
            refine WP.seq ?_
            refine WP.region ?_
            refine RL.val rfl (ex_move (by conv => lhs; whnf)) ?_
            refine RL.val rfl (ex_move (by conv => lhs; whnf)) ?_
            refine RL.val rfl (ex_move (by conv => lhs; whnf)) ?_
            refine RL.val rfl (ex_ixa (by conv => lhs; whnf) (by conv => lhs; whnf) Ybaf.sl23 Ybaf.sz62 rfl (by omega)) ?_
            refine RL.val rfl (ex_load (by conv => lhs; whnf) Ybaf.sc62 hnc2) ?_
            refine RL.val rfl (ex_len (by conv => lhs; whnf) Ybaf.sl62) ?_
            refine RL.val rfl (ex_lss (by conv => lhs; whnf) (by conv => lhs; whnf)) ?_
            refine RL.nil ?_
            by_cases hqe : q < e.l.length
            · obtain ⟨z, hz⟩ : ∃ z, e.l[q]? = some z := ⟨_, List.getElem?_eq_getElem hqe⟩
              obtain ⟨eb, eo, hee, heb, hec⟩ := hn4.in_ i e hNi q z hz
              rw [hea] at hee
              cases hee
              refine WP.cond_true (congrArg Value.bool (decide_eq_true (by omega))) ?_
              refine WP.region ?_
              refine RL.val rfl (ex_move (by conv => lhs; whnf)) ?_
              refine RL.val rfl (ex_move (by conv => lhs; whnf)) ?_
              refine RL.val rfl (ex_move (by conv => lhs; whnf)) ?_
              refine RL.val rfl (ex_move (by conv => lhs; whnf)) ?_
              refine RL.val rfl (ex_ixa (by conv => lhs; whnf) (by conv => lhs; whnf) Ybaf.sl23 Ybaf.sz62 rfl (by omega)) ?_
              refine RL.val rfl (ex_load (by conv => lhs; whnf) Ybaf.sc62 hnc2) ?_
              refine RL.val rfl (ex_move (by conv => lhs; whnf)) ?_
              refine RL.val rfl (ex_ixa (by rw [hea]; rfl) (by conv => lhs; whnf) Ybaf.sl62 Ybaf.sz4 rfl (by omega)) ?_
              refine RL.val rfl (ex_load (by conv => lhs; whnf) Ybaf.sc4 hec) ?_
              refine RL.val rfl (ex_ix1 (by conv => lhs; whnf) (by conv => lhs; whnf) Ybaf.sl62 Ybaf.sz4 rfl (by omega)) ?_
              refine RL.unit (ex_store (by conv => lhs; whnf) (by conv => lhs; whnf) Ybaf.sc4 rfl h15 (by simp; omega)) ?_
              refine RL.nil ?_
              refine WP.region ?_
              refine RL.val rfl (ex_add (c := ((q + 1 : Nat) : Int)) (by conv => lhs; whnf) (by conv => lhs; whnf) (by rw [IntKind.wrap_i64]; omega)) ?_
              refine RL.val rfl (ex_move (by conv => lhs; whnf)) ?_
              refine RL.nil ?_
              refine hK2 (t.l.length - (q + 1)) _ _ (by omega) ⟨q + 1, _, rfl, by omega, ⟨rfl, rfl, rfl, rfl, rfl, rfl, rfl, rfl, rfl, rfl, rfl, rfl, rfl, trivial⟩, (sr_ne h14 (by first | exact ne_of_type h14 h15 rfl | omega)), (sr_eq h15), by simp [hcs2], fun j hj => ?_, (sr_ne hv4 (by first | exact ne_of_type hv4 h15 rfl | omega)), hf4.set _ _ (fun hh => absurd hh (by omega))⟩
              by_cases hjq : j = q
              · subst hjq
                rw [if_pos (by omega), List.getD_eq_getElem?_getD, hz]
                simp [hcs2, hqk]
              · rw [Array.getElem?_setIfInBounds_ne (by omega), hct2 j hj]
                congr 2
                by_cases hj2 : j < q
                · rw [if_pos hj2, if_pos (by omega)]
                · rw [if_neg hj2, if_neg (by omega)]
            · refine WP.cond_false (congrArg Value.bool (decide_eq_false (by omega))) ?_
              refine WP.skip ?_
              refine WP.region ?_
              refine RL.val rfl (ex_add (c := ((q + 1 : Nat) : Int)) (by conv => lhs; whnf) (by conv => lhs; whnf) (by rw [IntKind.wrap_i64]; omega)) ?_
              refine RL.val rfl (ex_move (by conv => lhs; whnf)) ?_
              refine RL.nil ?_
              refine hK2 (t.l.length - (q + 1)) _ _ (by omega) ⟨q + 1, cn, rfl, by omega, ⟨rfl, rfl, rfl, rfl, rfl, rfl, rfl, rfl, rfl, rfl, rfl, rfl, rfl, trivial⟩, h14, h15, hcs2, fun j hj => ?_, hv4, hf4⟩
              rw [hct2 j hj]
              congr 2
              by_cases hj2 : j < q
              · rw [if_pos hj2, if_pos (by omega)]
              · by_cases hjq : j = q
                · subst hjq
                  rw [if_neg hj2, if_pos (by omega), List.getD_eq_getElem?_getD, List.getElem?_eq_none (by omega)]
                  rfl
                · rw [if_neg hj2, if_neg (by omega)]
          rintro F w4 ⟨cn, hF, h14, h15, hct2, hv4, hf4⟩
          obtain ⟨G, rfl⟩ := hF.get
          clear hF
          have LT14 := lt_of h14
          have LT900 := lt_of h15
          have LT901 := lt_of hv4
          have FRsz := Fr.size hf4
          refine WP.region ?_
          refine RL.val rfl (ex_move (by conv => lhs; whnf)) ?_
          refine RL.val rfl (ex_fieldAddr (by conv => lhs; whnf) Ybaf.fo64_3) ?_
          refine RL.unit (ex_store (by conv => lhs; whnf) (by conv => lhs; whnf) Ybaf.sc62 rfl h14 rfl) ?_
          refine RL.nil ?_
          refine ⟨_, ⟨rfl, rfl, rfl, rfl, rfl, rfl, rfl, rfl, rfl, rfl, trivial⟩, (sr_eq h14), ⟨.inr ⟨padB e.l t.l.length, w2.heap.size + 1, cn, by simp [nullsOf, hNi, hea], by simp [padB], by have := lt_of h15; rw [sz_sr]; exact this, (sr_ne h15 (by first | exact ne_of_type h15 h14 rfl | omega)), fun j b hb => ?_⟩⟩, (sr_ne hv4 (by first | exact ne_of_type hv4 h14 rfl | omega)), hf4.set _ _ (fun hh => absurd hh (by omega)), rfl⟩
          obtain ⟨hj, rfl⟩ : j < t.l.length ∧ e.l.getD j false = b := by
            have hlt : j < t.l.length := by have := (List.getElem?_eq_some_iff.1 hb).1; simpa [padB] using this
            refine ⟨hlt, ?_⟩
            rw [padB, List.getElem?_map, List.getElem?_range hlt] at hb
            simpa using hb
          exact hct2 j hj
    rintro F w3 ⟨nv, hF, h14, hnull, hv3, hf3, hone⟩
    obtain ⟨G, rfl⟩ := hF.get
    clear hF
    have hcT3 := hf3.keep hcT id
    have hfrS : Fr (fun k => k = B) w3 w3 := Fr.refl w3
    have hBwr := lt_of hcT
    have hsz3 := hf3.size
    have LT14 := lt_of h14
    have LT901 := lt_of hv3
    have LT902 := lt_of hcT3
    have FRsz := Fr.size hfrS
    refine WP.region ?_
    refine RL.val rfl (ex_move (by conv => lhs; whnf)) ?_
    refine RL.val rfl (ex_move (by conv => lhs; whnf)) ?_
    refine RL.val rfl (ex_loadW (by conv => lhs; whnf) h14 Ybaf.ag64 (by rfl)) ?_
    refine RL.val rfl (ex_buildSlice1 (by conv => lhs; whnf) Ybaf.sl49 Ybaf.sz64 Ybaf.zo64 rfl rfl rfl (by first | (conv => lhs; simp only [sz_al, sz_sr, sz_dn]) | rfl)) ?_
    refine RL.val rfl (ex_move (by conv => lhs; whnf)) ?_
    refine RL.val rfl (ex_len (by conv => lhs; whnf) Ybaf.sl54) ?_
    refine RL.val rfl (Ybaf.bl51_0_1 (by conv => lhs; whnf) rfl (by conv => lhs; whnf) rfl) ?_
    refine RL.val rfl (ex_box (by conv => lhs; whnf) (by first | (conv => lhs; simp only [sz_al, sz_sr, sz_dn]) | rfl)) ?_
    refine RL.val rfl (ex_ix1 (by conv => lhs; whnf) (by conv => lhs; whnf) Ybaf.sl27 Ybaf.sz52 rfl (by omega)) ?_
    refine RL.unit (ex_store (by conv => lhs; whnf) (by conv => lhs; whnf) Ybaf.sc52 rfl (al (al hcT3)) (by simp; omega)) ?_
    refine RL.nil ?_
    refine WP.region ?_
    refine RL.val rfl (ex_add (c := ((i + 1 : Nat) : Int)) (by conv => lhs; whnf) (by conv => lhs; whnf) (by rw [IntKind.wrap_i64]; omega)) ?_
    refine RL.val rfl (ex_move (by conv => lhs; whnf)) ?_
    refine RL.nil ?_
    exact hK (TS.length - (i + 1)) _ _ (by omega) ⟨i + 1, rfl, by omega, ⟨rfl, rfl, rfl, rfl, rfl, rfl, rfl, trivial⟩, tabs_step hto htt hcT hf3 hnull (Fr.set (Fr.alloc (Fr.alloc hfrS _) _) _ _ (fun hh => by first | exact rfl | exact .inl rfl | exact .inr (.inl rfl) | exact .inr (.inr rfl) | ((try simp only [sz_al, sz_sr, sz_dn] at hh); (try simp only [sz_al, sz_sr, sz_dn]); (first | omega | (dsimp only; omega) | exact .inl rfl | exact .inr (.inl rfl))))) (sr_eq (al (al hcT3))) (sr_ne (an' (by first | (simp only [sz_al, sz_sr, sz_dn]; done) | rfl | omega | (simp only [sz_al, sz_sr, sz_dn]; omega))) (by (try simp only [sz_al, sz_sr, sz_dn]); omega)) (sr_ne (al (an' (by first | (simp only [sz_al, sz_sr, sz_dn]; done) | rfl | omega | (simp only [sz_al, sz_sr, sz_dn]; omega)))) (by (try simp only [sz_al, sz_sr, sz_dn]); omega)) (sr_ne (al (al hv3)) (by first | exact ne_of_type hv3 hcT3 rfl | omega)) hcvt, (hfr.trans hf3 (fun _ _ h => h.elim)).trans (Fr.set (Fr.alloc (Fr.alloc hfrS _) _) _ _ (fun hh => by first | exact rfl | exact .inl rfl | exact .inr (.inl rfl) | exact .inr (.inr rfl) | ((try simp only [sz_al, sz_sr, sz_dn] at hh); (try simp only [sz_al, sz_sr, sz_dn]); (first | omega | (dsimp only; omega) | exact .inl rfl | exact .inr (.inl rfl))))) (fun k _ h => by have : k = B := h; omega)⟩
  rintro F w2 ⟨hF, hto, hfr2⟩
  obtain ⟨G, rfl⟩ := hF.get
  clear hF
  obtain ⟨cT, hcT, hcs, hct⟩ := hto.ex
  refine WP.seq ?_
  refine WP.seq ?_
  refine WP.region ?_
  refine RL.val rfl (ex_move (by conv => lhs; whnf)) ?_
  refine RL.val rfl (ex_len (by conv => lhs; whnf) Ybaf.sl27) ?_
  refine RL.val rfl (ex_eql (by conv => lhs; whnf) (by conv => lhs; whnf)) ?_
  refine RL.nil ?_
  by_cases hT0 : TS = []
  · refine WP.cond_true (congrArg Value.bool (decide_eq_true (by rw [hT0]; rfl))) ?_
    refine WP.seq ?_
    refine WP.region ?_
    refine RL.val rfl (ex_move (by conv => lhs; whnf)) ?_
    refine RL.val rfl (ex_assign (by conv => lhs; whnf)) ?_
    refine RL.val rfl (ex_assign (by conv => lhs; whnf)) ?_
    refine RL.nil ?_
    refine WP.ret ?_
    repeat (first | refine thenQ_ret ?_ | refine blockQ_ret ?_)
    exact bodyQ_tmp2 rfl ⟨_, [], B, rfl, hto, hfr2, Nat.le_refl _, fun _ => rfl, fun h => absurd hT0 h⟩
  have hTp : 0 < TS.length := by cases TS with | nil => exact absurd rfl hT0 | cons => simp
  refine WP.cond_false (congrArg Value.bool (decide_eq_false (by omega))) ?_
  refine WP.skip ?_
  obtain ⟨Bs, hBs⟩ : ∃ b, b = w2.heap.size := ⟨_, rfl⟩
  have hsz2 := hfr2.size
  have hBlt := lt_of hcT
  refine WP.seq ?_
  have FRsz := Fr.size hfr2
  refine WP.region ?_
  refine RL.val rfl (ex_move (by conv => lhs; whnf)) ?_
  refine RL.val rfl (ex_len (by conv => lhs; whnf) Ybaf.sl24) ?_
  refine RL.val rfl (ex_makeSlice (l := 0) (c := SS.length) (q := Bs) (by rfl) (by conv => lhs; whnf) Ybaf.sl28 Ybaf.in48 (by omega) (by omega) (by omega) hBs.symm) ?_
  refine RL.val rfl (ex_assign (by conv => lhs; whnf)) ?_
  refine RL.nil ?_
  have hmade : (w2.alloc (.cells (madeCells (Value.agg #[Value.int .i64 0, .slice none 0 0, .int .i64 0, .int .i64 0]).cells (SS.length * 4)) 48)).ownsRow Bs 48 4 (.slice (some ⟨Bs, 0, none⟩) 0 SS.length) 0 [] := by
    have := World.ownsRow_made (base := Bs) (e := 48) (size := 4) w2 (madeCells (Value.agg #[Value.int .i64 0, .slice none 0 0, .int .i64 0, .int .i64 0]).cells (SS.length * 4)) SS.length (by omega) (by simp only [maxLen]; omega) (size_madeCells _ _)
    rw [← hBs] at this
    exact this
  refine WP.seqc (fun F wr => ∃ sv pr, Has F [(8, .slice (some ⟨B, 0, none⟩) TS.length TS.length), (17, sv)] ∧ SrcTo wr Bs sv (SS.map (pcOf (tabsOf NS TS))) pr ∧ Fr (fun k => Bs ≤ k) w2 wr) ?_ ?_
  · refine WP.seq ?_
    refine WP.region ?_
    refine RL.val rfl (ex_move (by conv => lhs; whnf)) ?_
    refine RL.val rfl (ex_len (by conv => lhs; whnf) Ybaf.sl24) ?_
    refine RL.val rfl (ex_move (by conv => lhs; whnf)) ?_
    refine RL.nil ?_
    refine WP.block ?_
    refine WP.loopk (fun m F wr => ∃ i sv pr, m = SS.length - i ∧ i ≤ SS.length ∧ Has F [(8, .slice (some ⟨B, 0, none⟩) TS.length TS.length), (17, sv), (111, .slice sa SS.length sc), (112, .int .i64 (SS.length : Nat)), (113, .int .i64 (i : Nat))] ∧ SrcTo wr Bs sv ((SS.take i).map (pcOf (tabsOf NS TS))) pr ∧ Fr (fun k => Bs ≤ k) w2 wr) SS.length
      ⟨0, .slice (some ⟨Bs, 0, none⟩) 0 SS.length, [], rfl, Nat.zero_le _, ⟨rfl, rfl, rfl, rfl, rfl, trivial⟩, ⟨hmade, rfl, fun q h => by cases h⟩, (Fr.refl w2).alloc _⟩ ?_
    rintro m F wr ⟨i, sv, pr, rfl, hi, hF, hsrc, hfr⟩ K hK
    obtain ⟨G, rfl⟩ := hF.get
    clear hF
    refine WP.seq ?_
    have FRsz := Fr.size hfr
    refine WP.region ?_
    refine RL.val rfl (ex_lss (by conv => lhs; whnf) (by conv => lhs; whnf)) ?_
    refine RL.nil ?_
    refine WP.seq ?_
    refine WP.cond _ (by conv => lhs; whnf) (fun hlt1 => ?_) (fun hlt1 => ?_)
    rotate_left
    · have hik : i = SS.length := by have := of_decide_eq_false hlt1; omega
      refine WP.exit ?_
      repeat (first | refine thenQ_exit ?_ | refine blockQ_hit ?_ | refine blockQ_miss rfl ?_)
      rw [hik, List.take_length] at hsrc
      exact ⟨sv, pr, ⟨rfl, rfl, trivial⟩, hsrc, hfr⟩
    have hik : i < SS.length := by have := of_decide_eq_true hlt1; omega
    obtain ⟨s, hss⟩ : ∃ s, SS[i]? = some s := ⟨_, List.getElem?_eq_getElem hik⟩
    have hsok := hs.ok s (List.mem_of_getElem? hss)
    have hsl := hSl s (List.mem_of_getElem? hss)
    have hs2 := hs.keep (hfr2.trans hfr (fun k _ h => by have : Bs ≤ k := h; omega))
    obtain ⟨bb, oo, rfl, hbb, g0, g1, g2, g3, g4⟩ := hs2.at_ i s hss
    have hA := five_get g0 g1 g2 g3 g4
    have hsz := hfr.size
    have hs1 := hsok.t1
    have hs3 := hsok.s1
    have hs4 := hsok.s2
    obtain ⟨tt, htt⟩ : ∃ tt, TS[s.table % TS.length]? = some tt := ⟨_, List.getElem?_eq_getElem (Nat.mod_lt _ hTp)⟩
    have hmod : s.table % TS.length < TS.length := Nat.mod_lt _ hTp
    obtain ⟨bt, bc, hbt, htab⟩ := hct _ tt hmod htt
    have hTi : (tabsOf NS TS)[s.table % TS.length]? = some (tabOf NS (s.table % TS.length) tt) := by rw [tabsOf_get, htt]; rfl
    have hpc1 : (pcOf (tabsOf NS TS) s).ti = s.table % TS.length := by simp [pcOf, tabsOf_len]
    have hpc2 : (pcOf (tabsOf NS TS) s).rows = if s.whole then none else some (if 0 < tt.l.length then s.rows.map (· % tt.l.length) else []) := by
      simp only [pcOf, tabsOf_len, hTi, Option.map_some, Option.getD_some]
      rfl
    have hcTr := hfr.keep hcT (by show ¬ Bs ≤ B; omega)
    have hbtr := hfr.keep htab.row (by have := htab.lt; show ¬ Bs ≤ bt; omega)
    have hbtr' : wr.heap[bt]? = some (.cells #[.slice (some ⟨bc, 0, none⟩) 1 1, .int .i64 (tt.l.length : Nat)] 51 (0, 0)) := hbtr
    have hfrN : Fr (fun _ => False) wr wr := Fr.refl wr
    refine WP.skip ?_
    refine WP.seq ?_
    refine WP.block ?_
    refine WP.seq ?_
    have LT900 := lt_of hcTr
    have LT903 := lt_of hbtr'
    have FRsz := Fr.size hfrN
    refine WP.region ?_
    refine RL.val rfl (ex_indexAddr (by conv => lhs; whnf) (by conv => lhs; whnf) Ybaf.sl24 Ybaf.sz57 rfl (by omega)) ?_
    refine RL.val rfl (ex_loadA (by conv => lhs; whnf) Ybaf.ag57 rfl hA) ?_
    refine RL.val rfl (ex_alloc Ybaf.zo57 (by first | (conv => lhs; simp only [sz_al, sz_sr, sz_dn]) | rfl)) ?_
    refine RL.unit (ex_storeW (by conv => lhs; whnf) (by conv => lhs; whnf) Ybaf.ag57 (an' (by first | (simp only [sz_al, sz_sr, sz_dn]; done) | rfl | omega | (simp only [sz_al, sz_sr, sz_dn]; omega))) rfl rfl rfl) ?_
    refine RL.nil ?_
    refine WP.seq ?_
    refine WP.region ?_
    refine RL.val rfl (ex_fieldAddr (by conv => lhs; whnf) Ybaf.fo57_0) ?_
    refine RL.val rfl (ex_loadB (by conv => lhs; whnf) Ybaf.sc5 (sr_eq (an' (by first | (simp only [sz_al, sz_sr, sz_dn]; done) | rfl | omega | (simp only [sz_al, sz_sr, sz_dn]; omega)))) (by conv => lhs; whnf)) ?_
    refine RL.val rfl (ex_convert (by conv => lhs; whnf) Ybaf.cv5_3 Ybaf.kd3 (wrap_i64 (by omega) (by omega))) ?_
    refine RL.val rfl (ex_move (by conv => lhs; whnf)) ?_
    refine RL.val rfl (ex_len (by conv => lhs; whnf) Ybaf.sl27) ?_
    refine RL.val rfl (ex_remN (by conv => lhs; whnf) (by conv => lhs; whnf) rfl hTp) ?_
    refine RL.val rfl (ex_assign (by conv => lhs; whnf)) ?_
    refine RL.nil ?_
    refine WP.seq ?_
    refine WP.region ?_
    refine RL.val rfl (ex_move (by conv => lhs; whnf)) ?_
    refine RL.val rfl (ex_fieldAddr (by conv => lhs; whnf) Ybaf.fo57_3) ?_
    refine RL.val rfl (ex_loadB (by conv => lhs; whnf) Ybaf.sc25 (sr_eq (an' (by first | (simp only [sz_al, sz_sr, sz_dn]; done) | rfl | omega | (simp only [sz_al, sz_sr, sz_dn]; omega)))) (by conv => lhs; whnf)) ?_
    refine RL.val rfl (ex_convert (by conv => lhs; whnf) Ybaf.cv25_2 Ybaf.kd2 (wrap_i64 (by omega) (by omega))) ?_
    refine RL.val rfl (ex_fieldAddr (by conv => lhs; whnf) Ybaf.fo57_4) ?_
    refine RL.val rfl (ex_loadB (by conv => lhs; whnf) Ybaf.sc25 (sr_eq (an' (by first | (simp only [sz_al, sz_sr, sz_dn]; done) | rfl | omega | (simp only [sz_al, sz_sr, sz_dn]; omega)))) (by conv => lhs; whnf)) ?_
    refine RL.val rfl (ex_convert (by conv => lhs; whnf) Ybaf.cv25_2 Ybaf.kd2 (wrap_i64 (by omega) (by omega))) ?_
    refine RL.val rfl (Ybaf.bl48_0_2_3 (by conv => lhs; whnf) rfl (by conv => lhs; whnf) rfl (by conv => lhs; whnf) rfl) ?_
    refine RL.val rfl (ex_alloc Ybaf.zo48 (by first | (conv => lhs; simp only [sz_al, sz_sr, sz_dn]) | rfl)) ?_
    refine RL.unit (ex_storeW (by conv => lhs; whnf) (by conv => lhs; whnf) Ybaf.ag48 (an' (by first | (simp only [sz_al, sz_sr, sz_dn]; done) | rfl | omega | (simp only [sz_al, sz_sr, sz_dn]; omega))) (by rfl) (by rfl) (by rfl)) ?_
    refine RL.nil ?_
    refine WP.seqc (fun F w3 => ∃ rv, Has F [(8, .slice (some ⟨B, 0, none⟩) TS.length TS.length), (17, sv), (21, .pointer (some ⟨wr.heap.size + 1, 0, none⟩)), (111, .slice (some ⟨bb, oo, none⟩) SS.length sc), (112, .int .i64 (SS.length : Nat)), (113, .int .i64 (i : Nat))] ∧ w3.heap[wr.heap.size + 1]? = some (.cells #[.int .i64 ((s.table % TS.length : Nat) : Int), rv, .int .i64 s.start, .int .i64 s.stop] 48 (0, 0)) ∧ RowsV w3 w3.heap.size rv (pcOf (tabsOf NS TS) s).rows ∧ Fr (fun _ => False) wr w3) ?_ ?_
    · refine WP.seq ?_
      refine WP.region ?_
      refine RL.val rfl (ex_fieldAddr (by conv => lhs; whnf) Ybaf.fo57_2) ?_
      refine RL.val rfl (ex_loadB (by conv => lhs; whnf) Ybaf.sc4 (sr_ne (al (sr_eq (an' (by first | (simp only [sz_al, sz_sr, sz_dn]; done) | rfl | omega | (simp only [sz_al, sz_sr, sz_dn]; omega))))) (by (try simp only [sz_al, sz_sr, sz_dn]); omega)) (by conv => lhs; whnf)) ?_
      refine RL.val rfl (ex_not (by conv => lhs; whnf)) ?_
      refine RL.nil ?_
      rw [hpc2]
      cases hw : s.whole with
      | true =>
        refine WP.cond_false rfl ?_
        refine WP.skip ?_
        exact ⟨_, ⟨rfl, rfl, rfl, rfl, rfl, rfl, trivial⟩, (sr_eq (an' (by first | (simp only [sz_al, sz_sr, sz_dn]; done) | rfl | omega | (simp only [sz_al, sz_sr, sz_dn]; omega)))), ⟨.inl ⟨rfl, rfl⟩⟩, (Fr.set (Fr.alloc (Fr.set (Fr.alloc hfrN _) _ _ (fun hh => by first | exact rfl | exact .inl rfl | exact .inr (.inl rfl) | exact .inr (.inr rfl) | ((try simp only [sz_al, sz_sr, sz_dn] at hh); (try simp only [sz_al, sz_sr, sz_dn]); (first | omega | (dsimp only; omega) | exact .inl rfl | exact .inr (.inl rfl))))) _) _ _ (fun hh => by first | exact rfl | exact .inl rfl | exact .inr (.inl rfl) | exact .inr (.inr rfl) | ((try simp only [sz_al, sz_sr, sz_dn] at hh); (try simp only [sz_al, sz_sr, sz_dn]); (first | omega | (dsimp only; omega) | exact .inl rfl | exact .inr (.inl rfl)))))⟩
      | false =>
        refine WP.cond_true rfl ?_
        refine WP.seq ?_
        refine WP.region ?_
        refine RL.val rfl (ex_move (by conv => lhs; whnf)) ?_
        refine RL.val rfl (ex_move (by conv => lhs; whnf)) ?_
        refine RL.val rfl (ex_ix1 (by conv => lhs; whnf) (by conv => lhs; whnf) Ybaf.sl27 Ybaf.sz52 rfl (by omega)) ?_
        refine RL.val rfl (ex_load (by conv => lhs; whnf) Ybaf.sc52 (cellOf (sr_ne (al (sr_ne (al hcTr) (by (try simp only [sz_al, sz_sr, sz_dn]); omega))) (by (try simp only [sz_al, sz_sr, sz_dn]); omega)) hbt)) ?_
        refine RL.val rfl (ex_nilCheck (by conv => lhs; whnf)) ?_
        refine RL.val rfl (ex_fieldAddr (by conv => lhs; whnf) Ybaf.fo51_1) ?_
        refine RL.val rfl (ex_loadB (by conv => lhs; whnf) Ybaf.sc3 (sr_ne (al (sr_ne (al hbtr') (by (try simp only [sz_al, sz_sr, sz_dn]); omega))) (by (try simp only [sz_al, sz_sr, sz_dn]); omega)) (by conv => lhs; whnf)) ?_
        refine RL.val rfl (ex_assign (by conv => lhs; whnf)) ?_
        refine RL.nil ?_
        refine WP.seq ?_
        refine WP.region ?_
        refine RL.val rfl (ex_fieldAddr (by conv => lhs; whnf) Ybaf.fo57_1) ?_
        refine RL.val rfl (ex_loadB (by conv => lhs; whnf) Ybaf.sc55 (sr_ne (al (sr_eq (an' (by first | (simp only [sz_al, sz_sr, sz_dn]; done) | rfl | omega | (simp only [sz_al, sz_sr, sz_dn]; omega))))) (by (try simp only [sz_al, sz_sr, sz_dn]); omega)) (by conv => lhs; whnf)) ?_
        refine RL.val rfl (ex_len (by conv => lhs; whnf) Ybaf.sl55) ?_
        refine RL.val rfl (ex_makeSlice (l := 0) (c := s.rows.length) (q := wr.heap.size + 2) (by rfl) (by conv => lhs; whnf) Ybaf.sl46 Ybaf.in3 (by omega) (by omega) (by omega) (by first | (simp only [sz_al, sz_sr, sz_dn]; done) | rfl | omega | (simp only [sz_al, sz_sr, sz_dn]; omega))) ?_
        refine RL.val rfl (ex_assign (by conv => lhs; whnf)) ?_
        refine RL.nil ?_
        obtain ⟨l, hl⟩ : ∃ l, l = if 0 < tt.l.length then s.rows.map (· % tt.l.length) else [] := ⟨_, rfl⟩
        rw [if_neg (by simp), ← hl]
        refine WP.seqc (fun F w4 => ∃ g cap, Has F [(8, .slice (some ⟨B, 0, none⟩) TS.length TS.length), (17, sv), (21, .pointer (some ⟨wr.heap.size + 1, 0, none⟩)), (23, .slice (some ⟨g, 0, none⟩) l.length cap), (111, .slice (some ⟨bb, oo, none⟩) SS.length sc), (112, .int .i64 (SS.length : Nat)), (113, .int .i64 (i : Nat))] ∧ w4.heap[wr.heap.size + 1]? = some (.cells #[.int .i64 ((s.table % TS.length : Nat) : Int), .slice none 0 0, .int .i64 s.start, .int .i64 s.stop] 48 (0, 0)) ∧ w4.ownsRow (wr.heap.size + 2) 3 1 (.slice (some ⟨g, 0, none⟩) l.length cap) l.length ((ints l).map fun z => Value.int .i64 z) ∧ Fr (fun _ => False) wr w4) ?_ ?_
        · refine WP.seq ?_
          refine WP.region ?_
          refine RL.val rfl (ex_move (by conv => lhs; whnf)) ?_
          refine RL.val rfl (ex_gtr (by conv => lhs; whnf) (by conv => lhs; whnf)) ?_
          refine RL.nil ?_
          by_cases hn0 : 0 < tt.l.length
          · refine WP.cond_true (congrArg Value.bool (decide_eq_true (by omega))) ?_
            rw [if_pos hn0] at hl
            refine WP.seq ?_
            refine WP.region ?_
            refine RL.val rfl (ex_fieldAddr (by conv => lhs; whnf) Ybaf.fo57_1) ?_
            refine RL.val rfl (ex_loadB (by conv => lhs; whnf) Ybaf.sc55 (al (sr_ne (al (sr_eq (an' (by first | (simp only [sz_al, sz_sr, sz_dn]; done) | rfl | omega | (simp only [sz_al, sz_sr, sz_dn]; omega))))) (by (try simp only [sz_al, sz_sr, sz_dn]); omega))) (by conv => lhs; whnf)) ?_
            refine RL.val rfl (ex_len (by conv => lhs; whnf) Ybaf.sl55) ?_
            refine RL.val rfl (ex_move (by conv => lhs; whnf)) ?_
            refine RL.nil ?_
            refine WP.block ?_
            refine WP.loopk (fun m F w4 => ∃ q g cap, m = s.rows.length - q ∧ q ≤ s.rows.length ∧ Has F [(8, .slice (some ⟨B, 0, none⟩) TS.length TS.length), (17, sv), (21, .pointer (some ⟨wr.heap.size + 1, 0, none⟩)), (23, .slice (some ⟨g, 0, none⟩) q cap), (22, .int .i64 (tt.l.length : Nat)), (111, .slice (some ⟨bb, oo, none⟩) SS.length sc), (112, .int .i64 (SS.length : Nat)), (113, .int .i64 (i : Nat)), (148, .slice s.ra s.rows.length s.rc), (149, .int .i64 (s.rows.length : Nat)), (150, .int .i64 (q : Nat))] ∧ w4.heap[wr.heap.size + 1]? = some (.cells #[.int .i64 ((s.table % TS.length : Nat) : Int), .slice none 0 0, .int .i64 s.start, .int .i64 s.stop] 48 (0, 0)) ∧ w4.ownsRow (wr.heap.size + 2) 3 1 (.slice (some ⟨g, 0, none⟩) q cap) q ((ints (l.take q)).map fun z => Value.int .i64 z) ∧ wr.heap.size + 2 ≤ w4.heap.size ∧ Fr (fun _ => False) wr w4) s.rows.length
              ⟨0, wr.heap.size + 2, s.rows.length, rfl, Nat.zero_le _, ⟨rfl, rfl, rfl, rfl, rfl, rfl, rfl, rfl, rfl, rfl, rfl, trivial⟩, (al (sr_eq (an' (by first | (simp only [sz_al, sz_sr, sz_dn]; done) | rfl | omega | (simp only [sz_al, sz_sr, sz_dn]; omega))))), ?_, ?_, (Fr.alloc (Fr.set (Fr.alloc (Fr.set (Fr.alloc hfrN _) _ _ (fun hh => by first | exact rfl | exact .inl rfl | exact .inr (.inl rfl) | exact .inr (.inr rfl) | ((try simp only [sz_al, sz_sr, sz_dn] at hh); (try simp only [sz_al, sz_sr, sz_dn]); (first | omega | (dsimp only; omega) | exact .inl rfl | exact .inr (.inl rfl))))) _) _ _ (fun hh => by first | exact rfl | exact .inl rfl | exact .inr (.inl rfl) | exact .inr (.inr rfl) | ((try simp only [sz_al, sz_sr, sz_dn] at hh); (try simp only [sz_al, sz_sr, sz_dn]); (first | omega | (dsimp only; omega) | exact .inl rfl | exact .inr (.inl rfl))))) _)⟩ ?_
            · exact own_made (by simp only [sz_al, sz_sr]) (by omega) (size_madeCells _ _)
            · simp only [sz_al, sz_sr]; omega
            rintro m F w4 ⟨q, g, cap, rfl, hq, hF, h21, hown, hszq, hf4⟩ K2 hK2
            obtain ⟨G, rfl⟩ := hF.get
            clear hF
            refine WP.seq ?_
            have LT21 := lt_of h21
            have FRsz := Fr.size hf4
            refine WP.region ?_
            refine RL.val rfl (ex_lss (by conv => lhs; whnf) (by conv => lhs; whnf)) ?_
            refine RL.nil ?_
            refine WP.seq ?_
            refine WP.cond _ (by conv => lhs; whnf) (fun hlt2 => ?_) (fun hlt2 => ?_)
            rotate_left
            · have hqk : q = s.rows.length := by have := of_decide_eq_false hlt2; omega
              refine WP.exit ?_
              repeat (first | refine thenQ_exit ?_ | refine blockQ_hit ?_ | refine blockQ_miss rfl ?_)
              have hll : l.length = q := by rw [hl, List.length_map]; omega
              rw [← hll] at hown
              rw [List.take_length] at hown
              exact ⟨g, cap, ⟨rfl, rfl, rfl, (by rw [hll]; rfl), rfl, rfl, rfl, trivial⟩, h21, hown, hf4⟩
            have hqk : q < s.rows.length := by have := of_decide_eq_true hlt2; omega
            obtain ⟨r, hr⟩ : ∃ r, s.rows[q]? = some r := ⟨_, List.getElem?_eq_getElem hqk⟩
            obtain ⟨rb, rofs, hra, hrb, hrc⟩ := hs2.in_ i s hss q r hr
            have hr256 := hsok.r1 r (List.mem_of_getElem? hr)
            have hlq : l[q]? = some (r % tt.l.length) := by rw [hl, List.getElem?_map, hr]; rfl
            rw [hra]
            refine WP.skip ?_
            refine WP.seq ?_
            refine WP.block ?_
            refine WP.seq ?_
            refine WP.region ?_
            refine RL.val rfl (ex_ixa (by conv => lhs; whnf) (by conv => lhs; whnf) Ybaf.sl55 Ybaf.sz5 rfl (by omega)) ?_
            refine RL.val rfl (ex_load (by conv => lhs; whnf) Ybaf.sc5 (hf4.cell hrc id)) ?_
            refine RL.val rfl (ex_assign (by conv => lhs; whnf)) ?_
            refine RL.nil ?_
            refine WP.region ?_
            refine RL.val rfl (ex_move (by conv => lhs; whnf)) ?_
            refine RL.val rfl (ex_move (by conv => lhs; whnf)) ?_
            refine RL.val rfl (ex_convert (by conv => lhs; whnf) Ybaf.cv5_3 Ybaf.kd3 (wrap_i64 (by omega) (by omega))) ?_
            refine RL.val rfl (ex_move (by conv => lhs; whnf)) ?_
            refine RL.val rfl (ex_remN (by conv => lhs; whnf) (by conv => lhs; whnf) rfl hn0) ?_
            refine RL.val rfl (ex_buildSlice1 (by conv => lhs; whnf) Ybaf.sl46 Ybaf.sz3 Ybaf.zo3 rfl rfl rfl (by first | (conv => lhs; simp only [sz_al, sz_sr, sz_dn]) | rfl)) ?_
            refine RL.append1 (wr.heap.size + 2) rfl Ybaf.sl46 Ybaf.in3 rfl rfl rfl (by conv => lhs; whnf) (by conv => lhs; whnf) (hown.alloc _) (an' (by first | (simp only [sz_al, sz_sr, sz_dn]; done) | rfl | omega | (simp only [sz_al, sz_sr, sz_dn]; omega))) (by rfl) (by rfl) (by omega) (by rw [sz_al]; omega) ?_
            intro rv' w5 hown5 hgr hsv
            obtain ⟨g5, cap5, rfl⟩ := hsv
            refine RL.val rfl (ex_assign (by conv => lhs; whnf)) ?_
            refine RL.nil ?_
            refine WP.region ?_
            refine RL.val rfl (ex_add (c := ((q + 1 : Nat) : Int)) (by conv => lhs; whnf) (by conv => lhs; whnf) (by rw [IntKind.wrap_i64]; omega)) ?_
            refine RL.val rfl (ex_move (by conv => lhs; whnf)) ?_
            refine RL.nil ?_
            have hf5 : Fr (fun _ => False) wr w5 := hf4.growna hgr (fun kk hkk hlt => by have := (hown.lt kk hkk).1; omega)
            have htk : (ints (l.take (q + 1))).map (fun z => Value.int .i64 z) = ((ints (l.take q)).map fun z => Value.int .i64 z) ++ [.int .i64 ((r % tt.l.length : Nat) : Int)] := by
              have hlt := (List.getElem?_eq_some_iff.1 hlq).1
              rw [List.take_succ_eq_append_getElem hlt]
              have e := (List.getElem?_eq_some_iff.1 hlq).2
              rw [e]
              simp [ints]
            refine hK2 (s.rows.length - (q + 1)) _ _ (by omega) ⟨q + 1, g5, cap5, rfl, by omega, ⟨rfl, rfl, rfl, rfl, rfl, rfl, rfl, rfl, (by rw [hra]; rfl), rfl, rfl, trivial⟩, gka hgr hown h21 rfl, ?_, ?_, hf5⟩
            · rw [htk]; exact hown5
            · have := hgr.size; rw [sz_al] at this; omega
          · refine WP.cond_false (congrArg Value.bool (decide_eq_false (by omega))) ?_
            rw [if_neg hn0] at hl
            subst hl
            refine WP.skip ?_
            refine ⟨wr.heap.size + 2, s.rows.length, ⟨rfl, rfl, rfl, rfl, rfl, rfl, rfl, trivial⟩, (al (sr_eq (an' (by first | (simp only [sz_al, sz_sr, sz_dn]; done) | rfl | omega | (simp only [sz_al, sz_sr, sz_dn]; omega))))), ?_, (Fr.alloc (Fr.set (Fr.alloc (Fr.set (Fr.alloc hfrN _) _ _ (fun hh => by first | exact rfl | exact .inl rfl | exact .inr (.inl rfl) | exact .inr (.inr rfl) | ((try simp only [sz_al, sz_sr, sz_dn] at hh); (try simp only [sz_al, sz_sr, sz_dn]); (first | omega | (dsimp only; omega) | exact .inl rfl | exact .inr (.inl rfl))))) _) _ _ (fun hh => by first | exact rfl | exact .inl rfl | exact .inr (.inl rfl) | exact .inr (.inr rfl) | ((try simp only [sz_al, sz_sr, sz_dn] at hh); (try simp only [sz_al, sz_sr, sz_dn]); (first | omega | (dsimp only; omega) | exact .inl rfl | exact .inr (.inl rfl))))) _)⟩
            exact own_made (by simp only [sz_al, sz_sr]) (by omega) (size_madeCells _ _)
        rintro F w4 ⟨g, cap, hF, h21, hown, hf4⟩
        obtain ⟨G, rfl⟩ := hF.get
        clear hF
        have LT21 := lt_of h21
        have FRsz := Fr.size hf4
        refine WP.region ?_
        refine RL.val rfl (ex_move (by conv => lhs; whnf)) ?_
        refine RL.val rfl (ex_fieldAddr (by conv => lhs; whnf) Ybaf.fo48_1) ?_
        refine RL.unit (ex_store (by conv => lhs; whnf) (by conv => lhs; whnf) Ybaf.sc46 rfl h21 rfl) ?_
        refine RL.nil ?_
        refine ⟨_, ⟨rfl, rfl, rfl, rfl, rfl, rfl, trivial⟩, (sr_eq h21), ?_, hf4.set _ _ (fun hh => absurd hh (by omega))⟩
        exact rows_of_own (own_sr hown (own_ne_lt hown (by omega)))
    rintro F w3 ⟨rv, hF, h21, hrv, hf3⟩
    obtain ⟨G, rfl⟩ := hF.get
    clear hF
    obtain ⟨hone, hcells⟩ := rowsV_one hrv
    have hown3 := hf3.own hsrc.own (fun _ _ => id)
    have hsz3 := hf3.size
    have hlt21 := lt_of h21
    have LT21 := lt_of h21
    refine WP.region ?_
    refine RL.val rfl (ex_move (by conv => lhs; whnf)) ?_
    refine RL.val rfl (ex_loadW (by conv => lhs; whnf) h21 Ybaf.ag48 (by rfl)) ?_
    refine RL.val rfl (ex_buildSlice1 (by conv => lhs; whnf) Ybaf.sl28 Ybaf.sz48 Ybaf.zo48 rfl rfl rfl (by first | (conv => lhs; simp only [sz_al, sz_sr, sz_dn]) | rfl)) ?_
    refine RL.append1 Bs rfl Ybaf.sl28 Ybaf.in48 rfl rfl rfl (by conv => lhs; whnf) (by conv => lhs; whnf) (hown3.alloc _) (an' (by first | (simp only [sz_al, sz_sr, sz_dn]; done) | rfl | omega | (simp only [sz_al, sz_sr, sz_dn]; omega))) (by rfl) (all4 hone) (by simp; omega) (by rw [sz_al]; omega) ?_
    intro sv' w4 hown4 hgr hsv
    refine RL.val rfl (ex_assign (by conv => lhs; whnf)) ?_
    refine RL.nil ?_
    refine WP.region ?_
    refine RL.val rfl (ex_add (c := ((i + 1 : Nat) : Int)) (by conv => lhs; whnf) (by conv => lhs; whnf) (by rw [IntKind.wrap_i64]; omega)) ?_
    refine RL.val rfl (ex_move (by conv => lhs; whnf)) ?_
    refine RL.nil ?_
    have hrow : ∀ kk, sv.ownBlock = some kk → kk < w3.heap.size → Bs ≤ kk := fun kk hkk _ => (hown3.lt kk hkk).1
    have hf4 : Fr (fun k => Bs ≤ k) w3 w4 := (Fr.refl w3).growna hgr hrow
    have hk3 : ∀ (k : Nat) (c : Array Value) (fz : Nat × Nat), w3.heap[k]? = some (Obj.cells c 3 fz) → w4.heap[k]? = some (Obj.cells c 3 fz) := fun k c fz hc => gka hgr hown3 hc rfl
    have htk : (SS.take (i + 1)).map (pcOf (tabsOf NS TS)) = (SS.take i).map (pcOf (tabsOf NS TS)) ++ [pcOf (tabsOf NS TS) s] := by
      rw [List.take_succ_eq_append_getElem hik, List.map_append]
      have e := (List.getElem?_eq_some_iff.1 hss).2
      rw [e]
      rfl
    refine hK (SS.length - (i + 1)) _ _ (by omega) ⟨i + 1, sv', pr ++ [(pcOf (tabsOf NS TS) s, rv)], rfl, by omega, ⟨rfl, rfl, rfl, rfl, rfl, trivial⟩, ⟨?_, by rw [List.map_append, hsrc.fst, htk]; rfl, fun q hq => ?_⟩, (hfr.trans hf3 (fun _ _ h => h.elim)).trans hf4 (fun _ _ h => h)⟩
    · rw [htk, List.length_append, List.flatMap_append]
      have e : [(pcOf (tabsOf NS TS) s, rv)].flatMap pcCells = [.int .i64 ((s.table % TS.length : Nat) : Int), rv, .int .i64 s.start, .int .i64 s.stop] := by
        simp [pcCells, hpc1]
        exact ⟨rfl, rfl⟩
      rw [e]
      exact hown4
    · rcases List.mem_append.1 hq with h | h
      · exact (hsrc.rows q h).keepT (fun k c fz hlt hc => hk3 k c fz (hf3.keep hc id)) (by have := hf4.size; omega)
      · have : q = (pcOf (tabsOf NS TS) s, rv) := by simpa using h
        subst this
        exact hrv.keepT (fun k c fz hlt hc => hk3 k c fz hc) hf4.size
  rintro F wr ⟨sv, pr, hF, hsrc, hfr⟩
  obtain ⟨G, rfl⟩ := hF.get
  clear hF
  refine WP.seq ?_
  refine WP.region ?_
  refine RL.val rfl (ex_move (by conv => lhs; whnf)) ?_
  refine RL.val rfl (ex_move (by conv => lhs; whnf)) ?_
  refine RL.val rfl (ex_assign (by conv => lhs; whnf)) ?_
  refine RL.val rfl (ex_assign (by conv => lhs; whnf)) ?_
  refine RL.nil ?_
  refine WP.ret ?_
  repeat (first | refine thenQ_ret ?_ | refine blockQ_ret ?_)
  refine bodyQ_tmp2 rfl ⟨sv, pr, Bs, rfl, ⟨cT, hfr.keep hcT (by show ¬ Bs ≤ B; omega), hcs, fun j t hj ht' => ?_⟩, hfr2.trans hfr (fun k _ h => by have : Bs ≤ k := h; omega), by omega, fun h => absurd h hT0, fun _ => hsrc⟩
  obtain ⟨bt, bc, h1, h2⟩ := hct j t hj ht'
  exact ⟨bt, bc, h1, h2.keep52 (fun k c T fz hlt hc _ => hfr.keep hc (by show ¬ Bs ≤ k; omega)) hfr.size⟩
end Go.Proofs.YbulknocFmt
