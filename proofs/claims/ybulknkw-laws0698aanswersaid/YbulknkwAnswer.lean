/- (Transaction).Answer by its contract. -/
import Derived.Test.YbulknkwDo
namespace Go.Proofs.Ybulknkw
open Go Go.Eng Go.RowKit
set_option linter.unusedSimpArgs false
set_option linter.unusedVariables false

/-- Between two actions: i of them have been answered, none failed. -/
structure AO (w : World) (B bk bf bs : Nat) (fa : Option Addr) (fc : Nat) (fails : List Bool) (k0 : Nat) (sn : List ByteArray) (id : Int) (L : List Rq) (wr : World) (i : Nat) (rv : Value) (R : List Ra) : Prop where
  h4 : ∃ z4 : Array Value, z4.size = 6 ∧ wr.heap[w.heap.size + 1]? = some (.cells z4 35 (0, 0))
  h5 : wr.heap[w.heap.size + 2]? = some (.cells #[.int .i64 1, .int .u32 id, .bool false, rv, .pointer none, .slice none 0 0] 35 (0, 0))
  rep : ReplyAt wr w.heap.size rv R
  rl : R.length = i
  rd : ∀ (i' : Nat) (p : Rq) (r : Ra), L[i']? = some p → R[i']? = some r → doneRow p r
  dos : DoSt wr B bk bf bs fa fc fails (k0 + off L i) (sn ++ seenT L i)
  good : ∀ c, c < off L i → fail fails (k0 + c) = false
  fr : Fr (SD B bk bs w) w wr

/-- Within action i: j of its commands have been answered, none failed. -/
structure AI (B bk bf bs : Nat) (fa : Option Addr) (fc : Nat) (fails : List Bool) (k0 : Nat) (sn : List ByteArray) (L : List Rq) (i : Nat) (p : Rq) (wi wr : World) (j : Nat) (cv : Value) : Prop where
  h8 : wr.heap[wi.heap.size + 1]? = some (.cells #[.string p.ctx, .slice none 0 0, cv, .pointer none] 43 (0, 0))
  own : wr.ownsRow wi.heap.size 47 10 cv j (((p.terms.take j).map fun t => (t, (none : Option Addr))).flatMap cmdCells)
  dos : DoSt wr B bk bf bs fa fc fails (k0 + off L i + j) (sn ++ seenT L i ++ p.terms.take j)
  good : ∀ c, c < off L i + j → fail fails (k0 + c) = false
  fr : Fr (SD B bk bs wi) wi wr

/-- All were answered. -/
structure AnsDone (B bk bf bs : Nat) (fa : Option Addr) (fc : Nat) (fails : List Bool) (k0 : Nat) (sn : List ByteArray) (L : List Rq) (w' : World) (R : List Ra) : Prop where
  rl : R.length = L.length
  rd : ∀ (i' : Nat) (p : Rq) (r : Ra), L[i']? = some p → R[i']? = some r → doneRow p r
  dos : DoSt w' B bk bf bs fa fc fails (k0 + off L L.length) (sn ++ seenT L L.length)
  good : ∀ c, c < off L L.length → fail fails (k0 + c) = false
/-- Command j of action i failed. -/
structure AnsStop (B bk bf bs : Nat) (fa : Option Addr) (fc : Nat) (fails : List Bool) (k0 : Nat) (sn : List ByteArray) (L : List Rq) (w' : World) (R : List Ra) (i j : Nat) (p : Rq) (t : ByteArray) (g : Nat) : Prop where
  hp : L[i]? = some p
  ht : p.terms[j]? = some t
  rl : R.length = i + 1
  rd : ∀ (i' : Nat) (p : Rq) (r : Ra), i' < i → L[i']? = some p → R[i']? = some r → doneRow p r
  last : ∃ r, R[i]? = some r ∧ r.1 = p.ctx ∧ r.2.2 = ((p.terms.take j).map fun t => (t, none)) ++ [(t, some ⟨g, 0, none⟩)]
  err : w'.heap[g]? = some (.cells #[.int .i64 ((k0 + off L i + j : Nat) : Int), .string ⟨#[]⟩] 31 (0, 0))
  good : ∀ c, c < off L i + j → fail fails (k0 + c) = false
  bad : fail fails (k0 + off L i + j) = true
  dos : DoSt w' B bk bf bs fa fc fails (k0 + off L i + j + 1) (sn ++ seenT L i ++ p.terms.take (j + 1))

theorem take_snoc {α : Type} {l : List α} {j : Nat} {x : α} (h : l[j]? = some x) : l.take (j + 1) = l.take j ++ [x] := by
  have hlt := (List.getElem?_eq_some_iff.1 h).1
  rw [List.take_succ_eq_append_getElem hlt]
  congr 2
  exact (List.getElem?_eq_some_iff.1 h).2

set_option maxRecDepth 100000 in
theorem answer {w : World} {B bk bf bs : Nat} {fa : Option Addr} {fc : Nat} {fails : List Bool} {k0 : Nat} {sn : List ByteArray} {kind imm err acked av : Value} {id : Int} {L : List Rq}
    (hreq : ReqAt w B av L) (hdo : DoSt w B bk bf bs fa fc fails k0 sn) (hB : B ≤ w.heap.size) (hL : L.length ≤ 10000) (hT : ∀ p, p ∈ L → p.terms.length ≤ 10000) (htot : off L L.length ≤ 10000) (hk0 : k0 ≤ 10000) (hfl : fails.length ≤ 100000) (hsn : sn.length ≤ 10000) :
    Calls Yba.prog 5 #[.agg #[kind, .int .u32 id, imm, av, err, acked], .func (.func 4) #[] #[.pointer (some ⟨bk, 0, none⟩), .pointer (some ⟨bf, 0, none⟩), .pointer (some ⟨bs, 0, none⟩)]] w fun e w' => ∃ v, e = .returned v ∧
      (∃ rv R, v = .agg #[.int .i64 1, .int .u32 id, .bool false, rv, .pointer none, .slice none 0 0] ∧ ReplyAt w' w.heap.size rv R ∧
        (AnsDone B bk bf bs fa fc fails k0 sn L w' R ∨ ∃ i j p t g, AnsStop B bk bf bs fa fc fails k0 sn L w' R i j p t g) ∧ Fr (SD B bk bs w) w w') := by
  obtain ⟨aa, acap, hav, ha0⟩ := own_value hreq.own
  have hfr0 : Fr (SD B bk bs w) w w := Fr.refl w
  refine calls_of Yba.func5 rfl rfl ?_
  refine WP.seq ?_
  have FRsz := Fr.size hfr0
  refine WP.region ?_
  refine RL.val rfl (ex_box (by conv => lhs; whnf) (by first | (conv => lhs; simp only [sz_al, sz_sr, sz_dn]) | rfl)) ?_
  refine RL.val rfl (ex_alloc Yba.zo35 (by first | (conv => lhs; simp only [sz_al, sz_sr, sz_dn]) | rfl)) ?_
  refine RL.nil ?_
  refine WP.seq ?_
  refine WP.region ?_
  refine RL.val rfl (ex_fieldAddr (by conv => lhs; whnf) Yba.fo35_1) ?_
  refine RL.val rfl (ex_loadB (by conv => lhs; whnf) Yba.sc22 (al (an' (by first | (simp only [sz_al, sz_sr, sz_dn]; done) | rfl | omega | (simp only [sz_al, sz_sr, sz_dn]; omega)))) (by conv => lhs; whnf)) ?_
  refine RL.val rfl (Yba.bl35_0_1 (by conv => lhs; whnf) rfl (by conv => lhs; whnf) rfl) ?_
  refine RL.val rfl (ex_alloc Yba.zo35 (by first | (conv => lhs; simp only [sz_al, sz_sr, sz_dn]) | rfl)) ?_
  refine RL.unit (ex_storeW (by conv => lhs; whnf) (by conv => lhs; whnf) Yba.ag35 (an' (by first | (simp only [sz_al, sz_sr, sz_dn]; done) | rfl | omega | (simp only [sz_al, sz_sr, sz_dn]; omega))) (by rfl) (by rfl) (by rfl)) ?_
  refine RL.nil ?_
  refine WP.seqc (fun F wr => ∃ rv R, Has F [(4, .pointer (some ⟨w.heap.size + 1, 0, none⟩)), (5, .pointer (some ⟨w.heap.size + 2, 0, none⟩))] ∧ AO w B bk bf bs fa fc fails k0 sn id L wr L.length rv R) ?_ ?_
  rotate_left
  · rintro F wr ⟨rv, R, hF, hA⟩
    obtain ⟨G, rfl⟩ := hF.get
    obtain ⟨ra1, rc1, rfl, _⟩ := own_value hA.rep.own
    obtain ⟨z4, hz4, h4⟩ := hA.h4
    have h5 := hA.h5
    have hfr := hA.fr
    have hdo1 := hA.dos
    refine WP.seq ?_
    have LT4 := lt_of h4
    have LT5 := lt_of h5
    have FRsz := Fr.size hfr
    refine WP.region ?_
    refine RL.val rfl (ex_loadW (by conv => lhs; whnf) h5 Yba.ag35 (by rfl)) ?_
    refine RL.unit (ex_storeW (by conv => lhs; whnf) (by conv => lhs; whnf) Yba.ag35 h4 hz4 (by rfl) (by rfl)) ?_
    refine RL.nil ?_
    refine WP.ret ?_
    repeat (first | refine thenQ_ret ?_ | refine blockQ_ret ?_)
    refine bodyQ_cell rfl rfl (sr_eq h4) Yba.ag35 (by rfl) ?_
    exact ⟨_, R, rfl, ⟨(own_sr hA.rep.own (own_ne hA.rep.own h4 rfl)), fun p hp => own_sr (hA.rep.cmds p hp) (own_ne (hA.rep.cmds p hp) h4 rfl)⟩, .inl ⟨hA.rl, hA.rd, (DoSt.set hdo1 h4 rfl (by omega)), hA.good⟩, (Fr.set hfr _ _ (fun hh => by (try simp only [sz_al, sz_sr, sz_dn] at hh); (try simp only [sz_al, sz_sr, sz_dn]); (first | omega | (dsimp only; omega) | exact .inl rfl | exact .inr (.inl rfl))))⟩
  refine WP.seqc (fun F wr => Has F [(1, .func (.func 4) #[] #[.pointer (some ⟨bk, 0, none⟩), .pointer (some ⟨bf, 0, none⟩), .pointer (some ⟨bs, 0, none⟩)]), (4, .pointer (some ⟨w.heap.size + 1, 0, none⟩)), (5, .pointer (some ⟨w.heap.size + 2, 0, none⟩)), (16, .slice aa L.length acap), (17, .int .i64 (L.length : Nat)), (18, .int .i64 (0 : Nat))] ∧ AO w B bk bf bs fa fc fails k0 sn id L wr 0 (.slice none 0 0) []) ?_ ?_
  · rw [hav]
    refine WP.region ?_
    refine RL.val rfl (ex_fieldAddr (by conv => lhs; whnf) Yba.fo35_3) ?_
    refine RL.val rfl (ex_loadB (by conv => lhs; whnf) Yba.sc32 (sr_ne (al (al (an' (by first | (simp only [sz_al, sz_sr, sz_dn]; done) | rfl | omega | (simp only [sz_al, sz_sr, sz_dn]; omega))))) (by (try simp only [sz_al, sz_sr, sz_dn]); omega)) (by conv => lhs; whnf)) ?_
    refine RL.val rfl (ex_len (by conv => lhs; whnf) Yba.sl32) ?_
    refine RL.val rfl (ex_move (by conv => lhs; whnf)) ?_
    refine RL.nil ?_
    exact ⟨⟨rfl, rfl, rfl, rfl, rfl, rfl, trivial⟩, ⟨_, rfl, (sr_ne (al (an' (by first | (simp only [sz_al, sz_sr, sz_dn]; done) | rfl | omega | (simp only [sz_al, sz_sr, sz_dn]; omega)))) (by (try simp only [sz_al, sz_sr, sz_dn]); omega))⟩, (sr_eq (an' (by first | (simp only [sz_al, sz_sr, sz_dn]; done) | rfl | omega | (simp only [sz_al, sz_sr, sz_dn]; omega)))), ⟨World.ownsRow_nil _ _ _ _, fun p hp => (by cases hp)⟩, rfl, fun i' p r _ hr => (by simp at hr), by simpa [off, seenT] using (DoSt.set (DoSt.alloc (DoSt.alloc (DoSt.alloc hdo (by (try simp only [sz_al, sz_sr, sz_dn]); omega) _) (by (try simp only [sz_al, sz_sr, sz_dn]); omega) _) (by (try simp only [sz_al, sz_sr, sz_dn]); omega) _) (an' (by first | (simp only [sz_al, sz_sr, sz_dn]; done) | rfl | omega | (simp only [sz_al, sz_sr, sz_dn]; omega))) rfl (by omega)), fun c hc => (by simp [off] at hc), (Fr.set (Fr.alloc (Fr.alloc (Fr.alloc hfr0 _) _) _) _ _ (fun hh => by (try simp only [sz_al, sz_sr, sz_dn] at hh); (try simp only [sz_al, sz_sr, sz_dn]); (first | omega | (dsimp only; omega) | exact .inl rfl | exact .inr (.inl rfl))))⟩
  rintro F wr ⟨hF, hA⟩
  refine WP.block ?_
  refine WP.loopk (fun n F wr => ∃ (i : Nat) (rv : Value) (R : List Ra), n = L.length - i ∧ i ≤ L.length ∧ Has F [(1, .func (.func 4) #[] #[.pointer (some ⟨bk, 0, none⟩), .pointer (some ⟨bf, 0, none⟩), .pointer (some ⟨bs, 0, none⟩)]), (4, .pointer (some ⟨w.heap.size + 1, 0, none⟩)), (5, .pointer (some ⟨w.heap.size + 2, 0, none⟩)), (16, .slice aa L.length acap), (17, .int .i64 (L.length : Nat)), (18, .int .i64 (i : Nat))] ∧ AO w B bk bf bs fa fc fails k0 sn id L wr i rv R) L.length ⟨0, _, _, rfl, Nat.zero_le _, hF, hA⟩ ?_
  clear hF hA F wr
  rintro n F wi ⟨i, rv, R, rfl, hi, hF, hA⟩ K hK
  obtain ⟨G, rfl⟩ := hF.get
  clear hF
  refine WP.seq ?_
  have FRsz := Fr.size hA.fr
  refine WP.region ?_
  refine RL.val rfl (ex_lss (by conv => lhs; whnf) (by conv => lhs; whnf)) ?_
  refine RL.nil ?_
  refine WP.seq ?_
  refine WP.cond _ (by conv => lhs; whnf) (fun hlt => ?_) (fun hlt => ?_)
  rotate_left
  · refine WP.exit ?_
    repeat (first | refine thenQ_exit ?_ | refine blockQ_hit ?_ | refine blockQ_miss rfl ?_)
    have hge : ¬ ((i : Int) < L.length) := of_decide_eq_false hlt
    have : i = L.length := by omega
    subst this
    exact ⟨rv, R, ⟨rfl, rfl, trivial⟩, hA⟩
  have hlt' : (i : Int) < L.length := of_decide_eq_true hlt
  clear hlt
  refine WP.skip ?_
  have hil : i < L.length := by omega
  obtain ⟨p, hp⟩ : ∃ p, L[i]? = some p := ⟨L[i], List.getElem?_eq_getElem hil⟩
  have hpm := List.mem_of_getElem? hp
  have hpT := hT p hpm
  have hoff := off_succ hp
  have hoffm := off_mono L (show i + 1 ≤ L.length by omega)
  have hst := seenT_length L i
  refine WP.seqc (fun F wr => ∃ (rv : Value) (R : List Ra), Has F [(1, .func (.func 4) #[] #[.pointer (some ⟨bk, 0, none⟩), .pointer (some ⟨bf, 0, none⟩), .pointer (some ⟨bs, 0, none⟩)]), (4, .pointer (some ⟨w.heap.size + 1, 0, none⟩)), (5, .pointer (some ⟨w.heap.size + 2, 0, none⟩)), (16, .slice aa L.length acap), (17, .int .i64 (L.length : Nat)), (18, .int .i64 (i : Nat))] ∧ AO w B bk bf bs fa fc fails k0 sn id L wr (i + 1) rv R) ?_ ?_
  rotate_left
  · rintro F wr ⟨rv', R', hF, hA'⟩
    obtain ⟨G, rfl⟩ := hF.get
    have FRsz := Fr.size hA'.fr
    refine WP.region ?_
    refine RL.val rfl (ex_add (by conv => lhs; whnf) (by conv => lhs; whnf) (wrap_i64 (by omega) (by omega))) ?_
    refine RL.val rfl (ex_move (by conv => lhs; whnf)) ?_
    refine RL.nil ?_
    exact hK (L.length - (i + 1)) _ _ (by omega) ⟨i + 1, rv', R', rfl, by omega, ⟨rfl, rfl, rfl, rfl, rfl, rfl, trivial⟩, hA'⟩
  clear hK
  have hreqi := hreq.sd hdo hA.fr
  obtain ⟨_, g, cap, cur, hv, hgB, hg, hnc, hrow⟩ := own_open rqCells_len hreqi.own (by omega) (by omega)
  have hrow := hrow i p hp
  have hcm := hreqi.cmds p hpm
  have hone := hreqi.one p hpm
  obtain ⟨ca, ccap, hcv, hc0⟩ := own_value hcm
  have hv' : Value.slice aa L.length acap = .slice (some ⟨g, 0, none⟩) L.length cap := hav.symm.trans hv
  have haa : aa = some ⟨g, 0, none⟩ := by cases hv'; rfl
  subst haa
  refine WP.block ?_
  refine WP.seq ?_
  have hfri : Fr (SD B bk bs wi) wi wi := Fr.refl wi
  have hdoi := hA.dos
  have hszi := hA.fr.size
  have FRsz := Fr.size hfri
  refine WP.region ?_
  refine RL.val rfl (ex_ix0 (by conv => lhs; whnf) (by conv => lhs; whnf) Yba.sl32 Yba.sz43 rfl (by omega)) ?_
  refine RL.val rfl (ex_loadR (by conv => lhs; whnf) hg Yba.ag43 (rqCells_len p) hrow) ?_
  refine RL.val rfl (ex_alloc Yba.zo43 (by first | (conv => lhs; simp only [sz_al, sz_sr, sz_dn]) | rfl)) ?_
  refine RL.unit (ex_storeW (by conv => lhs; whnf) (by conv => lhs; whnf) Yba.ag43 (an' (by first | (simp only [sz_al, sz_sr, sz_dn]; done) | rfl | omega | (simp only [sz_al, sz_sr, sz_dn]; omega))) (by rfl) (by rfl) (rqCells_one p hone.1 (own_one hcm) hone.2)) ?_
  refine RL.nil ?_
  refine WP.seq ?_
  refine WP.region ?_
  refine RL.val rfl (ex_fieldAddr (by conv => lhs; whnf) Yba.fo43_0) ?_
  refine RL.val rfl (ex_loadB (by conv => lhs; whnf) Yba.sc9 (sr_eq (an' (by first | (simp only [sz_al, sz_sr, sz_dn]; done) | rfl | omega | (simp only [sz_al, sz_sr, sz_dn]; omega)))) (by conv => lhs; whnf)) ?_
  refine RL.val rfl (Yba.bl43_0 (by conv => lhs; whnf) rfl) ?_
  refine RL.val rfl (ex_alloc Yba.zo43 (by first | (conv => lhs; simp only [sz_al, sz_sr, sz_dn]) | rfl)) ?_
  refine RL.unit (ex_storeW (by conv => lhs; whnf) (by conv => lhs; whnf) Yba.ag43 (an' (by first | (simp only [sz_al, sz_sr, sz_dn]; done) | rfl | omega | (simp only [sz_al, sz_sr, sz_dn]; omega))) (by rfl) (by rfl) (by rfl)) ?_
  refine RL.nil ?_
  refine WP.seqc (fun F wr => ∃ cv : Value, Has F [(1, .func (.func 4) #[] #[.pointer (some ⟨bk, 0, none⟩), .pointer (some ⟨bf, 0, none⟩), .pointer (some ⟨bs, 0, none⟩)]), (4, .pointer (some ⟨w.heap.size + 1, 0, none⟩)), (5, .pointer (some ⟨w.heap.size + 2, 0, none⟩)), (8, .pointer (some ⟨wi.heap.size + 1, 0, none⟩)), (16, .slice (some ⟨g, 0, none⟩) L.length acap), (17, .int .i64 (L.length : Nat)), (18, .int .i64 (i : Nat))] ∧ AI B bk bf bs fa fc fails k0 sn L i p wi wr p.terms.length cv) ?_ ?_
  rotate_left
  · rintro F wr ⟨cv, hF, hI⟩
    obtain ⟨G, rfl⟩ := hF.get
    obtain ⟨z4, hz4, h4i⟩ := hA.h4
    have h4 := hI.fr.keep h4i (notSD hA.dos h4i rfl)
    have h5 := hI.fr.keep hA.h5 (notSD hA.dos hA.h5 rfl)
    have h8 := hI.h8
    have hrep := hA.rep.sd hA.dos hI.fr
    have hfrw := Fr.transSD hA.fr hI.fr
    have hdo2 := hI.dos
    rw [List.take_length] at hdo2
    have hrown := hrep.own
    have hrl := hA.rl
    have hsz1 := hI.fr.size
    obtain ⟨ca2, cc2, rfl, _⟩ := own_value hI.own
    have hone2 := own_one hrown
    have LT4 := lt_of h4
    have LT5 := lt_of h5
    have LT8 := lt_of h8
    have FRsz := Fr.size hfrw
    refine WP.region ?_
    refine RL.val rfl (ex_fieldAddr (by conv => lhs; whnf) Yba.fo35_3) ?_
    refine RL.val rfl (ex_loadB (by conv => lhs; whnf) Yba.sc32 h5 (by conv => lhs; whnf)) ?_
    refine RL.val rfl (ex_loadW (by conv => lhs; whnf) h8 Yba.ag43 (by rfl)) ?_
    refine RL.val rfl (ex_buildSlice1 (by conv => lhs; whnf) Yba.sl32 Yba.sz43 Yba.zo43 rfl rfl rfl (by first | (conv => lhs; simp only [sz_al, sz_sr, sz_dn]) | rfl)) ?_
    refine RL.append1 w.heap.size rfl Yba.sl32 Yba.in43 rfl rfl rfl (by conv => lhs; whnf) (by conv => lhs; whnf) (hrown.alloc _) (an' (by first | (simp only [sz_al, sz_sr, sz_dn]; done) | rfl | omega | (simp only [sz_al, sz_sr, sz_dn]; omega))) (by rfl) (by rfl) (by omega) (by rw [sz_al]; omega) ?_
    intro rv' w1 hown1 hgr hrvs
    obtain ⟨rg, rcap, rfl⟩ := hrvs
    have hrowna := hrown.alloc (.cells (Value.agg #[.string p.ctx, .slice none 0 0, .slice ca2 p.terms.length cc2, .pointer none]).cells 43)
    have hrlt : ∀ kk, rv.ownBlock = some kk → kk < w.heap.size → SD B bk bs w kk := fun kk hkk hlt => by
      have := (hrown.lt kk hkk).1
      omega
    refine RL.val rfl (ex_fieldAddr (by conv => lhs; whnf) Yba.fo35_3) ?_
    refine RL.unit (ex_store (by conv => lhs; whnf) (by conv => lhs; whnf) Yba.sc32 rfl (gk hgr (own_ne hrowna (al h5) rfl) (al h5)) rfl) ?_
    refine RL.nil ?_
    have hcmd : ∀ q, q ∈ R → w1.ownsRow w.heap.size 47 10 q.2.1 q.2.2.length (q.2.2.flatMap cmdCells) := fun q hq => own_gk ((hrep.cmds q hq).alloc _) hgr hrowna rfl
    have h5w : w1.heap[w.heap.size + 2]? = some (.cells #[.int .i64 1, .int .u32 id, .bool false, rv, .pointer none, .slice none 0 0] 35 (0, 0)) := gk hgr (own_ne hrowna (al h5) rfl) (al h5)
    refine ⟨.slice (some ⟨rg, 0, none⟩) (R.length + 1) rcap, R ++ [(p.ctx, .slice ca2 p.terms.length cc2, p.terms.map fun t => (t, none))], ⟨rfl, rfl, rfl, rfl, rfl, rfl, trivial⟩, ⟨_, hz4, (sr_ne (gk hgr (own_ne hrowna (al h4) rfl) (al h4)) (by first | exact ne_of_type h4 h5 rfl | omega))⟩, (sr_eq (gk hgr (own_ne hrowna (al h5) rfl) (al h5))), ⟨?_, ?_⟩, by simp [hrl], ?_, ?_, ?_, (Fr.set (Fr.grown (Fr.alloc hfrw _) hgr hrlt) _ _ (fun hh => by (try simp only [sz_al, sz_sr, sz_dn] at hh); (try simp only [sz_al, sz_sr, sz_dn]); (first | omega | (dsimp only; omega) | exact .inl rfl | exact .inr (.inl rfl))))⟩
    · have e1 : (R ++ [((p.ctx, .slice ca2 p.terms.length cc2, p.terms.map fun t => (t, none)) : Ra)]).flatMap actCells = R.flatMap actCells ++ (Value.agg #[.string p.ctx, .slice none 0 0, .slice ca2 p.terms.length cc2, .pointer none]).cells.toList := by
        simp [actCells, Value.cells]
      rw [e1, List.length_append]
      exact own_sr hown1 (own_ne hown1 h5w rfl)
    · intro q hq
      rcases List.mem_append.1 hq with hq | hq
      · exact own_sr (hcmd q hq) (own_ne (hcmd q hq) h5w rfl)
      · rw [List.mem_singleton] at hq
        subst hq
        have ho : w1.ownsRow wi.heap.size 47 10 (.slice ca2 p.terms.length cc2) p.terms.length (((p.terms.take p.terms.length).map fun t => (t, (none : Option Addr))).flatMap cmdCells) := own_gk (hI.own.alloc _) hgr hrowna rfl
        rw [List.take_length] at ho
        have ho2 := own_base ho hszi
        have := own_sr (cs := (#[Value.int .i64 1, .int .u32 id, .bool false, rv, .pointer none, .slice none 0 0] : Array Value).setIfInBounds 3 (.slice (some ⟨rg, 0, none⟩) (R.length + 1) rcap)) ho2 (own_ne ho2 h5w rfl)
        simpa using this
    · intro i' q r hq hr
      rcases Nat.lt_or_ge i' R.length with hlt | hge
      · rw [List.getElem?_append_left hlt] at hr
        exact hA.rd i' q r hq hr
      · rw [List.getElem?_append_right hge] at hr
        have h0 : i' - R.length = 0 := by
          rcases Nat.eq_zero_or_pos (i' - R.length) with h | h
          · exact h
          · rw [List.getElem?_eq_none (by simp; omega)] at hr; cases hr
        rw [h0] at hr
        simp only [List.getElem?_cons_zero, Option.some.injEq] at hr
        subst hr
        have : i' = i := by omega
        subst this
        rw [hp] at hq
        cases hq
        exact ⟨rfl, rfl⟩
    · rw [hoff, seenT_succ hp, ← List.append_assoc, ← Nat.add_assoc]
      exact (DoSt.set (DoSt.grow (DoSt.alloc hdo2 (by (try simp only [sz_al, sz_sr, sz_dn]); omega) _) hgr hrowna rfl (by omega) (by (try simp only [sz_al, sz_sr, sz_dn]); omega)) (gk hgr (own_ne hrowna (al h5) rfl) (al h5)) rfl (by omega))
    · rw [hoff]
      exact hI.good
  refine WP.seqc (fun F wr => Has F [(1, .func (.func 4) #[] #[.pointer (some ⟨bk, 0, none⟩), .pointer (some ⟨bf, 0, none⟩), .pointer (some ⟨bs, 0, none⟩)]), (4, .pointer (some ⟨w.heap.size + 1, 0, none⟩)), (5, .pointer (some ⟨w.heap.size + 2, 0, none⟩)), (8, .pointer (some ⟨wi.heap.size + 1, 0, none⟩)), (16, .slice (some ⟨g, 0, none⟩) L.length acap), (17, .int .i64 (L.length : Nat)), (18, .int .i64 (i : Nat)), (26, .slice ca p.terms.length ccap), (27, .int .i64 (p.terms.length : Nat)), (28, .int .i64 (0 : Nat))] ∧ AI B bk bf bs fa fc fails k0 sn L i p wi wr 0 (.slice none 0 0)) ?_ ?_
  · refine WP.region ?_
    refine RL.val rfl (ex_fieldAddr (by conv => lhs; whnf) Yba.fo43_2) ?_
    refine RL.val rfl (ex_loadB (v := .slice ca p.terms.length ccap) (by conv => lhs; whnf) Yba.sc41 (sr_ne (al (sr_eq (an' (by first | (simp only [sz_al, sz_sr, sz_dn]; done) | rfl | omega | (simp only [sz_al, sz_sr, sz_dn]; omega))))) (by (try simp only [sz_al, sz_sr, sz_dn]); omega)) (by simp [rqCells, nth, hcv])) ?_
    refine RL.val rfl (ex_len (by conv => lhs; whnf) Yba.sl41) ?_
    refine RL.val rfl (ex_move (by conv => lhs; whnf)) ?_
    refine RL.nil ?_
    exact ⟨⟨rfl, rfl, rfl, rfl, rfl, rfl, rfl, rfl, rfl, rfl, trivial⟩, (sr_eq (an' (by first | (simp only [sz_al, sz_sr, sz_dn]; done) | rfl | omega | (simp only [sz_al, sz_sr, sz_dn]; omega)))), World.ownsRow_nil _ _ _ _, by simpa using (DoSt.set (DoSt.alloc (DoSt.set (DoSt.alloc hdoi (by (try simp only [sz_al, sz_sr, sz_dn]); omega) _) (an' (by first | (simp only [sz_al, sz_sr, sz_dn]; done) | rfl | omega | (simp only [sz_al, sz_sr, sz_dn]; omega))) rfl (by omega)) (by (try simp only [sz_al, sz_sr, sz_dn]); omega) _) (an' (by first | (simp only [sz_al, sz_sr, sz_dn]; done) | rfl | omega | (simp only [sz_al, sz_sr, sz_dn]; omega))) rfl (by omega)), hA.good, (Fr.set (Fr.alloc (Fr.set (Fr.alloc hfri _) _ _ (fun hh => by (try simp only [sz_al, sz_sr, sz_dn] at hh); (try simp only [sz_al, sz_sr, sz_dn]); (first | omega | (dsimp only; omega) | exact .inl rfl | exact .inr (.inl rfl)))) _) _ _ (fun hh => by (try simp only [sz_al, sz_sr, sz_dn] at hh); (try simp only [sz_al, sz_sr, sz_dn]); (first | omega | (dsimp only; omega) | exact .inl rfl | exact .inr (.inl rfl))))⟩
  clear hg hrow hcm
  rintro F wr ⟨hF, hI⟩
  refine WP.block ?_
  refine WP.loopk (fun n F wr => ∃ (j : Nat) (cv : Value), n = p.terms.length - j ∧ j ≤ p.terms.length ∧ Has F [(1, .func (.func 4) #[] #[.pointer (some ⟨bk, 0, none⟩), .pointer (some ⟨bf, 0, none⟩), .pointer (some ⟨bs, 0, none⟩)]), (4, .pointer (some ⟨w.heap.size + 1, 0, none⟩)), (5, .pointer (some ⟨w.heap.size + 2, 0, none⟩)), (8, .pointer (some ⟨wi.heap.size + 1, 0, none⟩)), (16, .slice (some ⟨g, 0, none⟩) L.length acap), (17, .int .i64 (L.length : Nat)), (18, .int .i64 (i : Nat)), (26, .slice ca p.terms.length ccap), (27, .int .i64 (p.terms.length : Nat)), (28, .int .i64 (j : Nat))] ∧ AI B bk bf bs fa fc fails k0 sn L i p wi wr j cv) p.terms.length ⟨0, _, rfl, Nat.zero_le _, hF, hI⟩ ?_
  clear hF hI F wr
  rintro n F wr ⟨j, cv, rfl, hj, hF, hI⟩ K hK
  obtain ⟨G, rfl⟩ := hF.get
  clear hF
  refine WP.seq ?_
  have FRsz := Fr.size hI.fr
  refine WP.region ?_
  refine RL.val rfl (ex_lss (by conv => lhs; whnf) (by conv => lhs; whnf)) ?_
  refine RL.nil ?_
  refine WP.seq ?_
  refine WP.cond _ (by conv => lhs; whnf) (fun hlt => ?_) (fun hlt => ?_)
  rotate_left
  · refine WP.exit ?_
    repeat (first | refine thenQ_exit ?_ | refine blockQ_hit ?_ | refine blockQ_miss rfl ?_)
    have hge : ¬ ((j : Int) < p.terms.length) := of_decide_eq_false hlt
    have : j = p.terms.length := by omega
    subst this
    exact ⟨cv, ⟨rfl, rfl, rfl, rfl, rfl, rfl, rfl, trivial⟩, hI⟩
  have hlt2 : (j : Int) < p.terms.length := of_decide_eq_true hlt
  clear hlt
  refine WP.skip ?_
  have hjl : j < p.terms.length := by omega
  obtain ⟨t, ht⟩ : ∃ t, p.terms[j]? = some t := ⟨p.terms[j], List.getElem?_eq_getElem hjl⟩
  have hreqr := hreq.sd hdo (Fr.transSD hA.fr hI.fr)
  obtain ⟨_, g2, cap2, cur2, hv2, _, hg2, _, hrow2⟩ := own_open reqCells_len (hreqr.cmds p hpm) (by omega) (by omega)
  have hrow2 := hrow2 j t ht
  have hv3 : Value.slice ca p.terms.length ccap = .slice (some ⟨g2, 0, none⟩) p.terms.length cap2 := hcv.symm.trans hv2
  have hca : ca = some ⟨g2, 0, none⟩ := by cases hv3; rfl
  subst hca
  refine WP.seqc (fun F wr => ∃ cv : Value, Has F [(1, .func (.func 4) #[] #[.pointer (some ⟨bk, 0, none⟩), .pointer (some ⟨bf, 0, none⟩), .pointer (some ⟨bs, 0, none⟩)]), (4, .pointer (some ⟨w.heap.size + 1, 0, none⟩)), (5, .pointer (some ⟨w.heap.size + 2, 0, none⟩)), (8, .pointer (some ⟨wi.heap.size + 1, 0, none⟩)), (16, .slice (some ⟨g, 0, none⟩) L.length acap), (17, .int .i64 (L.length : Nat)), (18, .int .i64 (i : Nat)), (26, .slice (some ⟨g2, 0, none⟩) p.terms.length ccap), (27, .int .i64 (p.terms.length : Nat)), (28, .int .i64 (j : Nat))] ∧ AI B bk bf bs fa fc fails k0 sn L i p wi wr (j + 1) cv) ?_ ?_
  rotate_left
  · rintro F wr ⟨cv, hF, hI⟩
    obtain ⟨G, rfl⟩ := hF.get
    have FRsz := Fr.size hI.fr
    refine WP.region ?_
    refine RL.val rfl (ex_add (by conv => lhs; whnf) (by conv => lhs; whnf) (wrap_i64 (by omega) (by omega))) ?_
    refine RL.val rfl (ex_move (by conv => lhs; whnf)) ?_
    refine RL.nil ?_
    exact hK (p.terms.length - (j + 1)) _ _ (by omega) ⟨j + 1, cv, rfl, by omega, ⟨rfl, rfl, rfl, rfl, rfl, rfl, rfl, rfl, rfl, rfl, trivial⟩, hI⟩
  refine WP.block ?_
  refine WP.seq ?_
  have h8 := hI.h8
  have hfrr := hI.fr
  have hdor := hI.dos
  have hsz2 := hI.fr.size
  have hown0 := hI.own
  have htl : (p.terms.take j).length = j := by rw [List.length_take]; omega
  have LT8 := lt_of h8
  have FRsz := Fr.size hfrr
  refine WP.region ?_
  refine RL.val rfl (ex_ix0 (by conv => lhs; whnf) (by conv => lhs; whnf) Yba.sl41 Yba.sz47 rfl (by omega)) ?_
  refine RL.val rfl (ex_loadR (by conv => lhs; whnf) hg2 Yba.ag47 (reqCells_len t) hrow2) ?_
  refine RL.val rfl (ex_alloc Yba.zo47 (by first | (conv => lhs; simp only [sz_al, sz_sr, sz_dn]) | rfl)) ?_
  refine RL.unit (ex_storeW (by conv => lhs; whnf) (by conv => lhs; whnf) Yba.ag47 (an' (by first | (simp only [sz_al, sz_sr, sz_dn]; done) | rfl | omega | (simp only [sz_al, sz_sr, sz_dn]; omega))) (by rfl) (by rfl) (by rfl)) ?_
  refine RL.nil ?_
  refine WP.seqc (fun F wr => ∃ (ep : Option Addr) (b11 : Nat), Has F [(1, .func (.func 4) #[] #[.pointer (some ⟨bk, 0, none⟩), .pointer (some ⟨bf, 0, none⟩), .pointer (some ⟨bs, 0, none⟩)]), (4, .pointer (some ⟨w.heap.size + 1, 0, none⟩)), (5, .pointer (some ⟨w.heap.size + 2, 0, none⟩)), (8, .pointer (some ⟨wi.heap.size + 1, 0, none⟩)), (16, .slice (some ⟨g, 0, none⟩) L.length acap), (17, .int .i64 (L.length : Nat)), (18, .int .i64 (i : Nat)), (26, .slice (some ⟨g2, 0, none⟩) p.terms.length ccap), (27, .int .i64 (p.terms.length : Nat)), (28, .int .i64 (j : Nat)), (11, .pointer (some ⟨b11, 0, none⟩))] ∧ wr.heap[b11]? = some (.cells (cmdCells (t, ep)).toArray 47 (0, 0)) ∧ wi.heap.size ≤ b11 ∧ b11 ≠ wi.heap.size + 1 ∧ (∀ g', cv.ownBlock = some g' → g' < b11) ∧
    wr.heap[wi.heap.size + 1]? = some (.cells #[.string p.ctx, .slice none 0 0, cv, .pointer none] 43 (0, 0)) ∧ wr.ownsRow wi.heap.size 47 10 cv j (((p.terms.take j).map fun t => (t, (none : Option Addr))).flatMap cmdCells) ∧
    ep.isSome = fail fails (k0 + off L i + j) ∧ (∀ a, ep = some a → ∃ g, a = ⟨g, 0, none⟩ ∧ wr.heap[g]? = some (.cells #[.int .i64 ((k0 + off L i + j : Nat) : Int), .string ⟨#[]⟩] 31 (0, 0))) ∧ DoSt wr B bk bf bs fa fc fails (k0 + off L i + j + 1) (sn ++ seenT L i ++ p.terms.take j ++ [t]) ∧ Fr (SD B bk bs wi) wi wr) ?_ ?_
  · refine WP.region ?_
    refine RL.val rfl (ex_move (by conv => lhs; whnf)) ?_
    refine RL.val rfl (ex_loadW (by conv => lhs; whnf) (sr_eq (an' (by first | (simp only [sz_al, sz_sr, sz_dn]; done) | rfl | omega | (simp only [sz_al, sz_sr, sz_dn]; omega)))) Yba.ag47 (by rfl)) ?_
    refine RL.call rfl (ex_callc1_3 (by conv => lhs; whnf) (by rfl) Yba.fun4) (do_any2 (DoSt.set (DoSt.alloc hdor (by (try simp only [sz_al, sz_sr, sz_dn]); omega) _) (an' (by first | (simp only [sz_al, sz_sr, sz_dn]; done) | rfl | omega | (simp only [sz_al, sz_sr, sz_dn]; omega))) rfl (by omega)) (by omega) (by omega) (by simp only [List.length_append]; omega) (by (try simp only [sz_al, sz_sr, sz_dn]); omega)) ?_
    rintro v w2 ⟨ep, rfl, hep, hepa, hdo2, hkp, hfr2⟩
    have hsz3 := hfr2.size
    simp only [sz_al, sz_sr, sz_dn] at hsz3
    refine RL.val rfl (ex_alloc Yba.zo47 (by first | (conv => lhs; simp only [sz_al, sz_sr, sz_dn]) | rfl)) ?_
    refine RL.unit (ex_storeW (by conv => lhs; whnf) (by conv => lhs; whnf) Yba.ag47 (an' (by first | (simp only [sz_al, sz_sr, sz_dn]; done) | rfl | omega | (simp only [sz_al, sz_sr, sz_dn]; omega))) (by rfl) (by rfl) (by rfl)) ?_
    refine RL.nil ?_
    refine ⟨ep, w2.heap.size, ⟨rfl, rfl, rfl, rfl, rfl, rfl, rfl, rfl, rfl, rfl, rfl, trivial⟩, (sr_eq (an' (by first | (simp only [sz_al, sz_sr, sz_dn]; done) | rfl | omega | (simp only [sz_al, sz_sr, sz_dn]; omega)))), by omega, by have := lt_of h8; omega, ?_, (sr_ne (al (KeepsO.blk hkp rfl (sr_ne (al h8) (by (try simp only [sz_al, sz_sr, sz_dn]); omega)))) (by (try simp only [sz_al, sz_sr, sz_dn]); omega)), (own_sr (World.ownsRow.alloc (KeepsO.own hkp rfl (own_sr (World.ownsRow.alloc hown0 _) (own_ge hown0 (by omega)))) _) (own_ge hown0 (by omega))), hep, ?_, (DoSt.set (DoSt.alloc hdo2 (by (try simp only [sz_al, sz_sr, sz_dn]); omega) _) (an' (by first | (simp only [sz_al, sz_sr, sz_dn]; done) | rfl | omega | (simp only [sz_al, sz_sr, sz_dn]; omega))) rfl (by omega)), (Fr.set (Fr.alloc (Fr.transSD (Fr.set (Fr.alloc hfrr _) _ _ (fun hh => by (try simp only [sz_al, sz_sr, sz_dn] at hh); (try simp only [sz_al, sz_sr, sz_dn]); (first | omega | (dsimp only; omega) | exact .inl rfl | exact .inr (.inl rfl)))) hfr2) _) _ _ (fun hh => by (try simp only [sz_al, sz_sr, sz_dn] at hh); (try simp only [sz_al, sz_sr, sz_dn]); (first | omega | (dsimp only; omega) | exact .inl rfl | exact .inr (.inl rfl))))⟩
    · intro g' hg'
      have := (hown0.lt g' hg').2
      omega
    · intro a ha
      obtain ⟨g3, rfl, _, hg3⟩ := hepa a ha
      exact ⟨g3, rfl, sr_ne (al hg3) (by have := lt_of hg3; omega)⟩
  clear hrow2 hg2 h8 hfrr hdor
  rintro F wr1 ⟨ep, b11, hF, h11, hb11, hb11', hblt, h8, hown1, hep, hepa, hdo1, hfr1⟩
  obtain ⟨G, rfl⟩ := hF.get
  have hsz5 := hfr1.size
  refine WP.seqc (fun F wr => ∃ (ep : Option Addr) (b11 : Nat) (cg cc : Nat), Has F [(1, .func (.func 4) #[] #[.pointer (some ⟨bk, 0, none⟩), .pointer (some ⟨bf, 0, none⟩), .pointer (some ⟨bs, 0, none⟩)]), (4, .pointer (some ⟨w.heap.size + 1, 0, none⟩)), (5, .pointer (some ⟨w.heap.size + 2, 0, none⟩)), (8, .pointer (some ⟨wi.heap.size + 1, 0, none⟩)), (16, .slice (some ⟨g, 0, none⟩) L.length acap), (17, .int .i64 (L.length : Nat)), (18, .int .i64 (i : Nat)), (26, .slice (some ⟨g2, 0, none⟩) p.terms.length ccap), (27, .int .i64 (p.terms.length : Nat)), (28, .int .i64 (j : Nat)), (11, .pointer (some ⟨b11, 0, none⟩))] ∧ wr.heap[b11]? = some (.cells (cmdCells (t, ep)).toArray 47 (0, 0)) ∧
    wr.heap[wi.heap.size + 1]? = some (.cells #[.string p.ctx, .slice none 0 0, .slice (some ⟨cg, 0, none⟩) (j + 1) cc, .pointer none] 43 (0, 0)) ∧ wr.ownsRow wi.heap.size 47 10 (.slice (some ⟨cg, 0, none⟩) (j + 1) cc) (j + 1) ((((p.terms.take j).map fun t => (t, (none : Option Addr))) ++ [(t, ep)]).flatMap cmdCells) ∧
    ep.isSome = fail fails (k0 + off L i + j) ∧ (∀ a, ep = some a → ∃ g, a = ⟨g, 0, none⟩ ∧ wr.heap[g]? = some (.cells #[.int .i64 ((k0 + off L i + j : Nat) : Int), .string ⟨#[]⟩] 31 (0, 0))) ∧ DoSt wr B bk bf bs fa fc fails (k0 + off L i + j + 1) (sn ++ seenT L i ++ p.terms.take j ++ [t]) ∧ Fr (SD B bk bs wi) wi wr) ?_ ?_
  · have LT8 := lt_of h8
    have LT11 := lt_of h11
    have FRsz := Fr.size hfr1
    refine WP.region ?_
    refine RL.val rfl (ex_fieldAddr (by conv => lhs; whnf) Yba.fo43_2) ?_
    refine RL.val rfl (ex_loadB (by conv => lhs; whnf) Yba.sc41 h8 (by conv => lhs; whnf)) ?_
    refine RL.val rfl (ex_loadW (by conv => lhs; whnf) h11 Yba.ag47 (by rfl)) ?_
    refine RL.val rfl (ex_buildSlice1 (by conv => lhs; whnf) Yba.sl41 Yba.sz47 Yba.zo47 rfl rfl rfl (by first | (conv => lhs; simp only [sz_al, sz_sr, sz_dn]) | rfl)) ?_
    refine RL.append1 wi.heap.size rfl Yba.sl41 Yba.in47 rfl rfl rfl (by conv => lhs; whnf) (by conv => lhs; whnf) (hown1.alloc _) (an' (by first | (simp only [sz_al, sz_sr, sz_dn]; done) | rfl | omega | (simp only [sz_al, sz_sr, sz_dn]; omega))) (by rfl) (by rfl) (by omega) (by rw [sz_al]; omega) ?_
    intro cv2 w3 hown2 hgr hcv2
    obtain ⟨cg, cc, rfl⟩ := hcv2
    have hown1a := hown1.alloc (.cells (Value.agg (cmdCells (t, ep)).toArray).cells 47)
    have hrlt : ∀ kk, cv.ownBlock = some kk → kk < wi.heap.size → SD B bk bs wi kk := fun kk hkk hlt => by
      have := (hown1.lt kk hkk).1
      omega
    refine RL.val rfl (ex_fieldAddr (by conv => lhs; whnf) Yba.fo43_2) ?_
    refine RL.unit (ex_store (by conv => lhs; whnf) (by conv => lhs; whnf) Yba.sc41 rfl (gk hgr (by first | exact own_ne hown1a (al h8) rfl | exact (fun he => absurd (hblt _ he.symm) (Nat.lt_irrefl _))) (al h8)) rfl) ?_
    refine RL.nil ?_
    have h8w : w3.heap[wi.heap.size + 1]? = some (.cells #[.string p.ctx, .slice none 0 0, cv, .pointer none] 43 (0, 0)) := gk hgr (own_ne hown1a (al h8) rfl) (al h8)
    refine ⟨ep, b11, cg, cc, ⟨rfl, rfl, rfl, rfl, rfl, rfl, rfl, rfl, rfl, rfl, rfl, trivial⟩, (sr_ne (gk hgr (by first | exact own_ne hown1a (al h11) rfl | exact (fun he => absurd (hblt _ he.symm) (Nat.lt_irrefl _))) (al h11)) (by first | exact ne_of_type h11 h8 rfl | omega)), (sr_eq (gk hgr (by first | exact own_ne hown1a (al h8) rfl | exact (fun he => absurd (hblt _ he.symm) (Nat.lt_irrefl _))) (al h8))), ?_, hep, ?_, (DoSt.set (DoSt.grow (DoSt.alloc hdo1 (by (try simp only [sz_al, sz_sr, sz_dn]); omega) _) hgr hown1a rfl (by omega) (by (try simp only [sz_al, sz_sr, sz_dn]); omega)) (gk hgr (by first | exact own_ne hown1a (al h8) rfl | exact (fun he => absurd (hblt _ he.symm) (Nat.lt_irrefl _))) (al h8)) rfl (by omega)), (Fr.set (Fr.grown (Fr.alloc hfr1 _) hgr hrlt) _ _ (fun hh => by (try simp only [sz_al, sz_sr, sz_dn] at hh); (try simp only [sz_al, sz_sr, sz_dn]); (first | omega | (dsimp only; omega) | exact .inl rfl | exact .inr (.inl rfl))))⟩
    · have e1 : (((p.terms.take j).map fun t => (t, (none : Option Addr))) ++ [(t, ep)]).flatMap cmdCells = ((p.terms.take j).map fun t => (t, (none : Option Addr))).flatMap cmdCells ++ (Value.agg (cmdCells (t, ep)).toArray).cells.toList := by
        simp [Value.cells]
      rw [e1]
      exact own_sr hown2 (own_ne hown2 h8w rfl)
    · intro a ha
      obtain ⟨g3, rfl, hg3⟩ := hepa a ha
      have hg3w : w3.heap[g3]? = _ := gk hgr (own_ne hown1a (al hg3) rfl) (al hg3)
      exact ⟨g3, rfl, sr_ne hg3w (ne_of_type hg3w h8w rfl)⟩
  clear h8 h11 hown1 hep hepa hdo1 hfr1 hF hblt hb11 hb11' hsz5 ep b11 wr1
  rintro F wr1 ⟨ep, b11, cg, cc, hF, h11, h8, hown1, hep, hepa, hdo1, hfr1⟩
  obtain ⟨G, rfl⟩ := hF.get
  have hsz5 := hfr1.size
  have htk : p.terms.take j ++ [t] = p.terms.take (j + 1) := (take_snoc ht).symm
  rw [List.append_assoc (sn ++ seenT L i), htk] at hdo1
  refine WP.seq ?_
  have LT8 := lt_of h8
  have LT11 := lt_of h11
  have FRsz := Fr.size hfr1
  refine WP.region ?_
  refine RL.val rfl (ex_fieldAddr (by conv => lhs; whnf) Yba.fo47_5) ?_
  refine RL.val rfl (ex_loadB (by conv => lhs; whnf) Yba.sc29 h11 (by conv => lhs; whnf)) ?_
  refine RL.val rfl (ex_neq_nil (by conv => lhs; whnf) (by conv => lhs; whnf) Yba.pt29) ?_
  refine RL.nil ?_
  refine WP.cond ep.isSome (by conv => lhs; whnf) (fun hc1 => ?_) (fun hc1 => ?_)
  rotate_left
  · have hen : ep = none := by cases ep <;> simp at hc1 ⊢
    subst hen
    refine WP.skip ?_
    refine ⟨_, ⟨rfl, rfl, rfl, rfl, rfl, rfl, rfl, rfl, rfl, rfl, trivial⟩, h8, ?_, hdo1, ?_, hfr1⟩
    · rw [take_snoc ht, List.map_append]
      exact hown1
    · intro c hc
      rcases Nat.lt_or_ge c (off L i + j) with h | h
      · exact hI.good c h
      · have : c = off L i + j := by omega
        subst this
        rw [← Nat.add_assoc, ← hep]
        rfl
  · obtain ⟨a, rfl⟩ : ∃ a, ep = some a := Option.isSome_iff_exists.1 hc1
    obtain ⟨g3, rfl, hg3⟩ := hepa a rfl
    obtain ⟨z4, hz4, h4i⟩ := hA.h4
    have h4 := hfr1.keep h4i (notSD hA.dos h4i rfl)
    have h5 := hfr1.keep hA.h5 (notSD hA.dos hA.h5 rfl)
    have hrep := hA.rep.sd hA.dos hfr1
    have hfrw := Fr.transSD hA.fr hfr1
    have hrown := hrep.own
    have hrl := hA.rl
    refine WP.seq ?_
    have LT4 := lt_of h4
    have LT5 := lt_of h5
    have LT8 := lt_of h8
    have LT99 := lt_of hg3
    have FRsz := Fr.size hfrw
    refine WP.region ?_
    refine RL.val rfl (ex_fieldAddr (by conv => lhs; whnf) Yba.fo35_3) ?_
    refine RL.val rfl (ex_loadB (by conv => lhs; whnf) Yba.sc32 h5 (by conv => lhs; whnf)) ?_
    refine RL.val rfl (ex_loadW (by conv => lhs; whnf) h8 Yba.ag43 (by rfl)) ?_
    refine RL.val rfl (ex_buildSlice1 (by conv => lhs; whnf) Yba.sl32 Yba.sz43 Yba.zo43 rfl rfl rfl (by first | (conv => lhs; simp only [sz_al, sz_sr, sz_dn]) | rfl)) ?_
    refine RL.append1 w.heap.size rfl Yba.sl32 Yba.in43 rfl rfl rfl (by conv => lhs; whnf) (by conv => lhs; whnf) (hrown.alloc _) (an' (by first | (simp only [sz_al, sz_sr, sz_dn]; done) | rfl | omega | (simp only [sz_al, sz_sr, sz_dn]; omega))) (by rfl) (by rfl) (by omega) (by rw [sz_al]; omega) ?_
    intro rv' w1 hown3 hgr hrvs
    obtain ⟨rg, rcap, rfl⟩ := hrvs
    have hrowna := hrown.alloc (.cells (Value.agg #[.string p.ctx, .slice none 0 0, .slice (some ⟨cg, 0, none⟩) (j + 1) cc, .pointer none]).cells 43)
    have hrlt : ∀ kk, rv.ownBlock = some kk → kk < w.heap.size → SD B bk bs w kk := fun kk hkk hlt => by
      have := (hrown.lt kk hkk).1
      omega
    refine RL.val rfl (ex_fieldAddr (by conv => lhs; whnf) Yba.fo35_3) ?_
    refine RL.unit (ex_store (by conv => lhs; whnf) (by conv => lhs; whnf) Yba.sc32 rfl (gk hgr (own_ne hrowna (al h5) rfl) (al h5)) rfl) ?_
    refine RL.nil ?_
    refine WP.seq ?_
    refine WP.region ?_
    refine RL.val rfl (ex_loadW (by conv => lhs; whnf) (sr_eq (gk hgr (own_ne hrowna (al h5) rfl) (al h5))) Yba.ag35 (by rfl)) ?_
    refine RL.unit (ex_storeW (by conv => lhs; whnf) (by conv => lhs; whnf) Yba.ag35 (sr_ne (gk hgr (own_ne hrowna (al h4) rfl) (al h4)) (by first | exact ne_of_type h4 h5 rfl | omega)) hz4 (by rfl) (by rfl)) ?_
    refine RL.nil ?_
    refine WP.ret ?_
    repeat (first | refine thenQ_ret ?_ | refine blockQ_ret ?_)
    have hcmd : ∀ q, q ∈ R → w1.ownsRow w.heap.size 47 10 q.2.1 q.2.2.length (q.2.2.flatMap cmdCells) := fun q hq => own_gk ((hrep.cmds q hq).alloc _) hgr hrowna rfl
    have h5w : w1.heap[w.heap.size + 2]? = some (.cells #[.int .i64 1, .int .u32 id, .bool false, rv, .pointer none, .slice none 0 0] 35 (0, 0)) := gk hgr (own_ne hrowna (al h5) rfl) (al h5)
    have h4w : w1.heap[w.heap.size + 1]? = some (.cells z4 35 (0, 0)) := gk hgr (own_ne hrowna (al h4) rfl) (al h4)
    have hother : ∀ {base e size n : Nat} {v : Value} {xs : List Value} {c1 c2 : Array Value}, w1.ownsRow base e size v n xs → Nat.beq 35 e = false → ((w1.setRow (w.heap.size + 2) c1).setRow (w.heap.size + 1) c2).ownsRow base e size v n xs := fun ho he =>
      own_sr (own_sr ho (own_ne ho h5w he)) (own_ne ho h4w he)
    refine bodyQ_cell rfl rfl (sr_eq (sr_ne (gk hgr (own_ne hrowna (al h4) rfl) (al h4)) (by first | exact ne_of_type h4 h5 rfl | omega))) Yba.ag35 (by rfl) ?_
    refine ⟨.slice (some ⟨rg, 0, none⟩) (R.length + 1) rcap, R ++ [(p.ctx, .slice (some ⟨cg, 0, none⟩) (j + 1) cc, ((p.terms.take j).map fun t => (t, none)) ++ [(t, some ⟨g3, 0, none⟩)])], rfl, ⟨?_, ?_⟩, .inr ⟨i, j, p, t, g3, hp, ht, by simp [hrl], ?_, ?_, (sr_ne (sr_ne (gk hgr (own_ne hrowna (al hg3) rfl) (al hg3)) (by first | exact ne_of_type hg3 h5 rfl | omega)) (by first | exact ne_of_type hg3 h4 rfl | omega)), hI.good, hep.symm, ?_⟩, (Fr.set (Fr.set (Fr.grown (Fr.alloc hfrw _) hgr hrlt) _ _ (fun hh => by (try simp only [sz_al, sz_sr, sz_dn] at hh); (try simp only [sz_al, sz_sr, sz_dn]); (first | omega | (dsimp only; omega) | exact .inl rfl | exact .inr (.inl rfl)))) _ _ (fun hh => by (try simp only [sz_al, sz_sr, sz_dn] at hh); (try simp only [sz_al, sz_sr, sz_dn]); (first | omega | (dsimp only; omega) | exact .inl rfl | exact .inr (.inl rfl))))⟩
    · have e1 : (R ++ [((p.ctx, .slice (some ⟨cg, 0, none⟩) (j + 1) cc, ((p.terms.take j).map fun t => (t, none)) ++ [(t, some ⟨g3, 0, none⟩)]) : Ra)]).flatMap actCells = R.flatMap actCells ++ (Value.agg #[.string p.ctx, .slice none 0 0, .slice (some ⟨cg, 0, none⟩) (j + 1) cc, .pointer none]).cells.toList := by
        simp [actCells, Value.cells]
      rw [e1, List.length_append]
      exact hother hown3 rfl
    · intro q hq
      rcases List.mem_append.1 hq with hq | hq
      · exact hother (hcmd q hq) rfl
      · rw [List.mem_singleton] at hq
        subst hq
        have ho : w1.ownsRow wi.heap.size 47 10 (.slice (some ⟨cg, 0, none⟩) (j + 1) cc) (j + 1) ((((p.terms.take j).map fun t => (t, (none : Option Addr))) ++ [(t, (some ⟨g3, 0, none⟩ : Option Addr))]).flatMap cmdCells) := own_gk (hown1.alloc _) hgr hrowna rfl
        have hl : (((p.terms.take j).map fun t => (t, (none : Option Addr))) ++ [(t, (some ⟨g3, 0, none⟩ : Option Addr))]).length = j + 1 := by rw [List.length_append, List.length_map, htl]; rfl
        simp only [hl]
        exact hother (own_base ho hszi) rfl
    · intro i' q r hi' hq hr
      rw [List.getElem?_append_left (by omega)] at hr
      exact hA.rd i' q r hq hr
    · refine ⟨(p.ctx, .slice (some ⟨cg, 0, none⟩) (j + 1) cc, ((p.terms.take j).map fun t => (t, none)) ++ [(t, some ⟨g3, 0, none⟩)]), ?_, rfl, rfl⟩
      rw [List.getElem?_append_right (by omega), hrl, Nat.sub_self]
      rfl
    · exact (DoSt.set (DoSt.set (DoSt.grow (DoSt.alloc hdo1 (by (try simp only [sz_al, sz_sr, sz_dn]); omega) _) hgr hrowna rfl (by omega) (by (try simp only [sz_al, sz_sr, sz_dn]); omega)) (gk hgr (own_ne hrowna (al h5) rfl) (al h5)) rfl (by omega)) (sr_ne (gk hgr (own_ne hrowna (al h4) rfl) (al h4)) (by first | exact ne_of_type h4 h5 rfl | omega)) rfl (by omega))
end Go.Proofs.Ybulknkw
