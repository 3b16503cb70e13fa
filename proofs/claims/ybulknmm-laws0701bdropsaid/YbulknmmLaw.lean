/- The law's own walk. -/
import Derived.Test.YbulknmmBuild
namespace Go.Proofs.Ybulknmm
open Go Go.Eng Go.RowKit
set_option linter.unusedSimpArgs false
set_option linter.unusedVariables false

theorem ex_lookup_at {P : Program} {ρ : Operand → Value} {ty : TypeId} {w : World} {t kt e r : TypeId} {x y : Operand} {k : ByteArray} {L : List (ByteArray × Nat)} {o : Option Nat} (hx : ρ x = .map (some r)) (hy : ρ y = .string k) (ht : P.underlying t = some (.map kt e)) (hk : P.underlying kt = some .string)
    (hz : zeroOf P e = some (.pointer none)) (hm : MapIs w r L) (hlk : lk L k = o) : ex P ρ (.lookup t x y true) ty w = .ok (.value (.tuple #[ptrOf o, .bool o.isSome])) w := by
  subst hlk
  exact ex_lookupS hx hy ht hk hz hm

set_option maxRecDepth 100000 in
theorem law_any {w : World} {ka la : Option Addr} {kc m lc pk ea : Nat} {ue : Bool} {target : ByteArray} {K : List ByteArray} (hK : KeysAt w w.heap.size ka K) (hL : LensAt w w.heap.size la m) (hpk : pk < 256) (hea : ea < 256) :
    Calls Yba.prog 3 #[.slice ka K.length kc, .slice la m lc, .int .u8 (pk : Nat), .int .u8 (ea : Nat), .bool ue, .string target] w fun e w' => ∃ v, e = .returned v ∧ (v = .bool true ∧ Fr (fun b => w.heap.size ≤ b) w w') := by
  have hfr0 : Fr (fun b => w.heap.size ≤ b) w w := Fr.refl w
  refine calls_of Yba.func3 rfl rfl ?_
  refine WP.seq ?_
  have FRsz := Fr.size hfr0
  refine WP.region ?_
  refine RL.val rfl (ex_assign (by conv => lhs; whnf)) ?_
  refine RL.nil ?_
  refine WP.seq ?_
  refine WP.seq ?_
  refine WP.region ?_
  refine RL.val rfl (ex_move (by conv => lhs; whnf)) ?_
  refine RL.val rfl (ex_len (by conv => lhs; whnf) Yba.sl22) ?_
  refine RL.val rfl (ex_gtr (by conv => lhs; whnf) (by conv => lhs; whnf)) ?_
  refine RL.nil ?_
  by_cases hn : K.length ≤ 1024
  rotate_left
  · refine WP.cond_true (congrArg Value.bool (decide_eq_true (by omega))) ?_
    refine WP.seq ?_
    refine WP.region ?_
    refine RL.val rfl (ex_assign (by conv => lhs; whnf)) ?_
    refine RL.nil ?_
    refine WP.ret ?_
    repeat (first | refine thenQ_ret ?_ | refine blockQ_ret ?_)
    exact bodyQ_tmp rfl ⟨rfl, hfr0⟩
  refine WP.cond_false (congrArg Value.bool (decide_eq_false (by omega))) ?_
  refine WP.skip ?_
  refine WP.seq ?_
  refine WP.region ?_
  refine RL.val rfl (ex_move (by conv => lhs; whnf)) ?_
  refine RL.val rfl (ex_move (by conv => lhs; whnf)) ?_
  refine RL.val rfl (ex_move (by conv => lhs; whnf)) ?_
  refine RL.val rfl (ex_move (by conv => lhs; whnf)) ?_
  refine RL.call rfl (ex_call4 rfl (by conv => lhs; whnf) (by conv => lhs; whnf) (by conv => lhs; whnf) (by conv => lhs; whnf) Yba.fun5) (build rfl hK hL hn hea) ?_
  rintro v w2 ⟨bS, bT, bR, L, bytes, xb, p, rfl, hb⟩
  refine RL.val rfl (ex_move (by conv => lhs; whnf)) ?_
  refine RL.val rfl (ex_extract (by conv => lhs; whnf) rfl) ?_
  refine RL.val rfl (ex_extract (by conv => lhs; whnf) rfl) ?_
  refine RL.val rfl (ex_extract (by conv => lhs; whnf) rfl) ?_
  refine RL.val rfl (ex_assign (by conv => lhs; whnf)) ?_
  refine RL.val rfl (ex_assign (by conv => lhs; whnf)) ?_
  refine RL.val rfl (ex_assign (by conv => lhs; whnf)) ?_
  refine RL.nil ?_
  obtain ⟨n, hnn⟩ : ∃ n, n = K.length := ⟨_, rfl⟩
  rw [← hnn] at hn ⊢
  have hst := hb.sto
  have hK2 := hK.keep hb.fr
  refine WP.seqc (fun F wr => w2 = wr ∧ ∃ key, Has F [(0, .slice ka n kc), (13, .pointer (some ⟨bS, 0, none⟩)), (14, .slice (some ⟨bR, 0, none⟩) n n), (15, ptrOf xb), (16, .string key), (2, .int .u8 (pk : Nat))]) ?_ ?_
  · refine WP.region ?_
    refine RL.val rfl (ex_move (by conv => lhs; whnf)) ?_
    refine RL.val rfl (ex_assign (by conv => lhs; whnf)) ?_
    refine RL.nil ?_
    exact ⟨rfl, target, rfl, rfl, rfl, rfl, rfl, rfl, trivial⟩
  rintro F wr ⟨rfl, key0, hF⟩
  obtain ⟨G, rfl⟩ := hF.get
  clear hF
  refine WP.seq ?_
  refine WP.region ?_
  refine RL.val rfl (ex_move (by conv => lhs; whnf)) ?_
  refine RL.val rfl (ex_convert (by conv => lhs; whnf) Yba.cv5_3 Yba.kd3 (wrap_i64 (by omega) (by omega))) ?_
  refine RL.val rfl (ex_move (by conv => lhs; whnf)) ?_
  refine RL.val rfl (ex_len (by conv => lhs; whnf) Yba.sl22) ?_
  refine RL.val rfl (ex_add (c := ((n + 1 : Nat) : Int)) (by conv => lhs; whnf) (by conv => lhs; whnf) (by rw [IntKind.wrap_i64]; omega)) ?_
  refine RL.val rfl (ex_remN (by conv => lhs; whnf) (by conv => lhs; whnf) rfl (by omega)) ?_
  refine RL.val rfl (ex_assign (by conv => lhs; whnf)) ?_
  refine RL.nil ?_
  refine WP.seqc (fun F wr => w2 = wr ∧ ∃ key, Has F [(0, .slice ka n kc), (13, .pointer (some ⟨bS, 0, none⟩)), (14, .slice (some ⟨bR, 0, none⟩) n n), (15, ptrOf xb), (16, .string key)]) ?_ ?_
  · refine WP.seq ?_
    refine WP.region ?_
    refine RL.val rfl (ex_move (by conv => lhs; whnf)) ?_
    refine RL.val rfl (ex_move (by conv => lhs; whnf)) ?_
    refine RL.val rfl (ex_len (by conv => lhs; whnf) Yba.sl22) ?_
    refine RL.val rfl (ex_lss (by conv => lhs; whnf) (by conv => lhs; whnf)) ?_
    refine RL.nil ?_
    by_cases hlt : pk % (n + 1) < n
    · obtain ⟨k, hk⟩ : ∃ k, K[pk % (n + 1)]? = some k := ⟨_, List.getElem?_eq_getElem (by omega)⟩
      obtain ⟨bb, oo, rfl, hbb, hcell⟩ := hK2.at_ _ k hk
      refine WP.cond_true (congrArg Value.bool (decide_eq_true (by omega))) ?_
      refine WP.region ?_
      refine RL.val rfl (ex_move (by conv => lhs; whnf)) ?_
      refine RL.val rfl (ex_move (by conv => lhs; whnf)) ?_
      refine RL.val rfl (ex_ixa (by conv => lhs; whnf) (by conv => lhs; whnf) Yba.sl22 Yba.sz9 rfl (by omega)) ?_
      refine RL.val rfl (ex_load (by conv => lhs; whnf) Yba.sc9 hcell) ?_
      refine RL.val rfl (ex_assign (by conv => lhs; whnf)) ?_
      refine RL.nil ?_
      exact ⟨rfl, k, rfl, rfl, rfl, rfl, rfl, trivial⟩
    · refine WP.cond_false (congrArg Value.bool (decide_eq_false (by omega))) ?_
      refine WP.skip ?_
      exact ⟨rfl, key0, rfl, rfl, rfl, rfl, rfl, trivial⟩
  rintro F wr ⟨rfl, key, hF⟩
  obtain ⟨G, rfl⟩ := hF.get
  clear hF
  have hs := hst.st
  refine WP.seq ?_
  have LT13 := lt_of hs
  refine WP.region ?_
  refine RL.val rfl (ex_move (by conv => lhs; whnf)) ?_
  refine RL.val rfl (ex_nilCheck (by conv => lhs; whnf)) ?_
  refine RL.val rfl (ex_fieldAddr (by conv => lhs; whnf) Yba.fo46_5) ?_
  refine RL.val rfl (ex_loadB (by conv => lhs; whnf) Yba.sc42 hs (by conv => lhs; whnf)) ?_
  refine RL.val rfl (ex_move (by conv => lhs; whnf)) ?_
  refine RL.val rfl (ex_lookupS (by conv => lhs; whnf) (by conv => lhs; whnf) Yba.mp42 Yba.st9 Yba.zo26 hst.mp) ?_
  refine RL.val rfl (ex_move (by conv => lhs; whnf)) ?_
  refine RL.val rfl (ex_extract (by conv => lhs; whnf) rfl) ?_
  refine RL.val rfl (ex_extract (by conv => lhs; whnf) rfl) ?_
  refine RL.val rfl (ex_assign (by conv => lhs; whnf)) ?_
  refine RL.val rfl (ex_assign (by conv => lhs; whnf)) ?_
  refine RL.nil ?_
  refine WP.seq ?_
  refine WP.region ?_
  refine RL.val rfl (ex_move (by conv => lhs; whnf)) ?_
  refine RL.val rfl (ex_nilCheck (by conv => lhs; whnf)) ?_
  refine RL.val rfl (ex_fieldAddr (by conv => lhs; whnf) Yba.fo46_5) ?_
  refine RL.val rfl (ex_loadB (by conv => lhs; whnf) Yba.sc42 hs (by conv => lhs; whnf)) ?_
  refine RL.val rfl (ex_lenM (by conv => lhs; whnf) Yba.mp42 hst.mp) ?_
  refine RL.val rfl (ex_assign (by conv => lhs; whnf)) ?_
  refine RL.nil ?_
  refine WP.seq ?_
  refine WP.region ?_
  refine RL.val rfl (ex_move (by conv => lhs; whnf)) ?_
  refine RL.val rfl (ex_nilCheck (by conv => lhs; whnf)) ?_
  refine RL.val rfl (ex_fieldAddr (by conv => lhs; whnf) Yba.fo46_6) ?_
  refine RL.val rfl (ex_loadB (by conv => lhs; whnf) Yba.sc2 hs (by conv => lhs; whnf)) ?_
  refine RL.val rfl (ex_assign (by conv => lhs; whnf)) ?_
  refine RL.nil ?_
  refine WP.seq ?_
  refine WP.region ?_
  refine RL.val rfl (ex_assign (by conv => lhs; whnf)) ?_
  refine RL.nil ?_
  refine WP.seqc (fun F wr => ∃ sz : Int, (∀ b cp exp, lk L key = some b → Ent w2 key b cp exp → sz = szOf key cp) ∧ Fr (fun _ => False) w2 wr ∧ Has F [(0, .slice ka n kc), (13, .pointer (some ⟨bS, 0, none⟩)), (14, .slice (some ⟨bR, 0, none⟩) n n), (15, ptrOf xb), (16, .string key), (18, ptrOf (lk L key)), (19, .bool (lk L key).isSome), (20, .int .i64 (L.length : Nat)), (21, .int .i64 bytes), (22, .int .i64 sz)]) ?_ ?_
  · refine WP.seq ?_
    refine WP.region ?_
    refine RL.val rfl (ex_move (by conv => lhs; whnf)) ?_
    refine RL.nil ?_
    cases hl : lk L key with
    | none =>
      refine WP.cond_false rfl ?_
      refine WP.skip ?_
      exact ⟨0, fun b cp exp h => (by cases h), Fr.refl _, rfl, rfl, rfl, rfl, rfl, rfl, rfl, rfl, rfl, rfl, trivial⟩
    | some b =>
      obtain ⟨cp, exp, he, hx⟩ := hst.en key b (lk_mem hl)
      refine WP.cond_true rfl ?_
      refine WP.region ?_
      refine RL.val rfl (ex_move (by conv => lhs; whnf)) ?_
      refine RL.call rfl (ex_call1 rfl (by conv => lhs; whnf) Yba.fun6) (size he) ?_
      rintro v w3 ⟨rfl, hf3⟩
      refine RL.val rfl (ex_assign (by conv => lhs; whnf)) ?_
      refine RL.nil ?_
      refine ⟨szOf key cp, fun b' cp' exp' h' he' => ?_, hf3, rfl, rfl, rfl, rfl, rfl, rfl, rfl, rfl, rfl, rfl, trivial⟩
      cases h'
      obtain ⟨_, _, _, _, _, r1⟩ := he.row
      obtain ⟨_, _, _, _, _, r2⟩ := he'.row
      rw [r1] at r2
      have : cp = cp' := by simp at r2; exact r2.1.2.2
      rw [this]
  rintro F w3 ⟨sz, hsz, hf3, hF⟩
  obtain ⟨G, rfl⟩ := hF.get
  clear hF
  have hst3 := hst.pure hf3
  refine WP.seq ?_
  refine WP.region ?_
  refine RL.val rfl (ex_move (by conv => lhs; whnf)) ?_
  refine RL.val rfl (ex_move (by conv => lhs; whnf)) ?_
  refine RL.call rfl (ex_call2 rfl (by conv => lhs; whnf) (by conv => lhs; whnf) Yba.fun7) (remove (key := key) hst3) ?_
  rintro v w4 ⟨bytes', xb', hs4, hm4, hf4, hnone, hsome⟩
  refine RL.nil ?_
  have hdel := del_same (k := key) hst.nd
  have hfr4 : Fr (fun b => w.heap.size ≤ b) w w4 := (hb.fr.trans hf3 (fun _ _ h => h.elim)).trans hf4 (fun g _ h => by have := hb.lS; have := hb.lT; rcases h with h | h <;> omega)
  refine WP.seq ?_
  refine WP.seq ?_
  have LT13 := lt_of hs4
  refine WP.region ?_
  refine RL.val rfl (ex_move (by conv => lhs; whnf)) ?_
  refine RL.val rfl (ex_nilCheck (by conv => lhs; whnf)) ?_
  refine RL.val rfl (ex_fieldAddr (by conv => lhs; whnf) Yba.fo46_5) ?_
  refine RL.val rfl (ex_loadB (by conv => lhs; whnf) Yba.sc42 hs4 (by conv => lhs; whnf)) ?_
  refine RL.val rfl (ex_move (by conv => lhs; whnf)) ?_
  refine RL.val rfl (ex_lookup_at (by conv => lhs; whnf) (by conv => lhs; whnf) Yba.mp42 Yba.st9 Yba.zo26 hm4 hdel) ?_
  refine RL.val rfl (ex_move (by conv => lhs; whnf)) ?_
  refine RL.val rfl (ex_extract (by conv => lhs; whnf) rfl) ?_
  refine RL.val rfl (ex_extract (by conv => lhs; whnf) rfl) ?_
  refine RL.val rfl (ex_assign (by conv => lhs; whnf)) ?_
  refine RL.val rfl (ex_assign (by conv => lhs; whnf)) ?_
  refine RL.nil ?_
  refine WP.seq ?_
  refine WP.region ?_
  refine RL.val rfl (ex_move (by conv => lhs; whnf)) ?_
  refine RL.nil ?_
  refine WP.cond_false rfl ?_
  refine WP.skip ?_
  refine WP.seqc (fun F wr => w4 = wr ∧ Has F [(0, .slice ka n kc), (13, .pointer (some ⟨bS, 0, none⟩)), (14, .slice (some ⟨bR, 0, none⟩) n n), (15, ptrOf xb), (16, .string key), (18, ptrOf (lk L key)), (19, .bool (lk L key).isSome)]) ?_ ?_
  · refine WP.seq ?_
    refine WP.region ?_
    refine RL.val rfl (ex_move (by conv => lhs; whnf)) ?_
    refine RL.nil ?_
    have hLn := hb.len
    cases hl : lk L key with
    | some b =>
      obtain ⟨cp, exp, he, hx⟩ := hst.en key b (lk_mem hl)
      obtain ⟨hby, _⟩ := hsome b cp exp hl (he.keep hf3 id)
      have hsz' := hsz b cp exp hl he
      have hdl := del_length hl
      refine WP.cond_true rfl ?_
      have hd1 : decide (((del L key).length : Int) ≠ ((L.length - 1 : Nat) : Int)) = false := decide_eq_false (by omega)
      refine WP.seq ?_
      refine WP.region ?_
      refine RL.val rfl (ex_move (by conv => lhs; whnf)) ?_
      refine RL.val rfl (ex_nilCheck (by conv => lhs; whnf)) ?_
      refine RL.val rfl (ex_fieldAddr (by conv => lhs; whnf) Yba.fo46_5) ?_
      refine RL.val rfl (ex_loadB (by conv => lhs; whnf) Yba.sc42 hs4 (by conv => lhs; whnf)) ?_
      refine RL.val rfl (ex_lenM (by conv => lhs; whnf) Yba.mp42 hm4) ?_
      refine RL.val rfl (ex_move (by conv => lhs; whnf)) ?_
      refine RL.val rfl (ex_sub (c := ((L.length - 1 : Nat) : Int)) (by conv => lhs; whnf) (by conv => lhs; whnf) (by rw [IntKind.wrap_i64]; omega)) ?_
      refine RL.val rfl (ex_neq (by conv => lhs; whnf) (by conv => lhs; whnf)) ?_
      refine RL.val rfl (ex_move (by conv => lhs; whnf)) ?_
      refine RL.take (dj := 99) rfl (congrArg Value.bool hd1) ?_
      refine RL.val rfl (ex_move (by conv => lhs; whnf)) ?_
      refine RL.take (dj := 99) rfl (congrArg Value.bool hd1) ?_
      refine RL.val rfl (ex_nilCheck (by conv => lhs; whnf)) ?_
      refine RL.take (dj := 99) rfl (congrArg Value.bool hd1) ?_
      refine RL.val rfl (ex_fieldAddr (by conv => lhs; whnf) Yba.fo46_6) ?_
      refine RL.take (dj := 99) rfl (congrArg Value.bool hd1) ?_
      refine RL.val rfl (ex_loadB (by conv => lhs; whnf) Yba.sc2 hs4 (by conv => lhs; whnf)) ?_
      refine RL.take (dj := 99) rfl (congrArg Value.bool hd1) ?_
      refine RL.val rfl (ex_move (by conv => lhs; whnf)) ?_
      refine RL.take (dj := 99) rfl (congrArg Value.bool hd1) ?_
      refine RL.val rfl (ex_move (by conv => lhs; whnf)) ?_
      refine RL.take (dj := 99) rfl (congrArg Value.bool hd1) ?_
      refine RL.val rfl (ex_sub (by conv => lhs; whnf) (by conv => lhs; whnf) rfl) ?_
      refine RL.take (dj := 99) rfl (congrArg Value.bool hd1) ?_
      refine RL.val rfl (ex_neq (by conv => lhs; whnf) (by conv => lhs; whnf)) ?_
      refine RL.val rfl (ex_pick_f (congrArg Value.bool hd1) (by conv => lhs; whnf)) ?_
      refine RL.nil ?_
      refine WP.cond_false (congrArg Value.bool (decide_eq_false (by rw [hby, hsz']; simp))) ?_
      refine WP.skip ?_
      exact ⟨rfl, rfl, rfl, rfl, rfl, rfl, rfl, rfl, trivial⟩
    | none =>
      obtain ⟨hby, _⟩ := hnone hl
      have hdl := del_none hl
      refine WP.cond_false rfl ?_
      have hd1 : decide (((del L key).length : Int) ≠ ((L.length : Nat) : Int)) = false := decide_eq_false (by rw [hdl]; simp)
      refine WP.seq ?_
      refine WP.region ?_
      refine RL.val rfl (ex_move (by conv => lhs; whnf)) ?_
      refine RL.val rfl (ex_nilCheck (by conv => lhs; whnf)) ?_
      refine RL.val rfl (ex_fieldAddr (by conv => lhs; whnf) Yba.fo46_5) ?_
      refine RL.val rfl (ex_loadB (by conv => lhs; whnf) Yba.sc42 hs4 (by conv => lhs; whnf)) ?_
      refine RL.val rfl (ex_lenM (by conv => lhs; whnf) Yba.mp42 hm4) ?_
      refine RL.val rfl (ex_move (by conv => lhs; whnf)) ?_
      refine RL.val rfl (ex_neq (by conv => lhs; whnf) (by conv => lhs; whnf)) ?_
      refine RL.val rfl (ex_move (by conv => lhs; whnf)) ?_
      refine RL.take (dj := 116) rfl (congrArg Value.bool hd1) ?_
      refine RL.val rfl (ex_move (by conv => lhs; whnf)) ?_
      refine RL.take (dj := 116) rfl (congrArg Value.bool hd1) ?_
      refine RL.val rfl (ex_nilCheck (by conv => lhs; whnf)) ?_
      refine RL.take (dj := 116) rfl (congrArg Value.bool hd1) ?_
      refine RL.val rfl (ex_fieldAddr (by conv => lhs; whnf) Yba.fo46_6) ?_
      refine RL.take (dj := 116) rfl (congrArg Value.bool hd1) ?_
      refine RL.val rfl (ex_loadB (by conv => lhs; whnf) Yba.sc2 hs4 (by conv => lhs; whnf)) ?_
      refine RL.take (dj := 116) rfl (congrArg Value.bool hd1) ?_
      refine RL.val rfl (ex_move (by conv => lhs; whnf)) ?_
      refine RL.take (dj := 116) rfl (congrArg Value.bool hd1) ?_
      refine RL.val rfl (ex_neq (by conv => lhs; whnf) (by conv => lhs; whnf)) ?_
      refine RL.val rfl (ex_pick_f (congrArg Value.bool hd1) (by conv => lhs; whnf)) ?_
      refine RL.nil ?_
      refine WP.cond_false (congrArg Value.bool (decide_eq_false (by rw [hby]; simp))) ?_
      refine WP.skip ?_
      exact ⟨rfl, rfl, rfl, rfl, rfl, rfl, rfl, rfl, trivial⟩
  rintro F wr ⟨rfl, hF⟩
  obtain ⟨G, rfl⟩ := hF.get
  clear hF
  have hK4 := hK.keep hfr4
  have hblk : ∀ k b, (k, b) ∈ L → ∃ c, w4.heap[b]? = some (.cells c 53 (0, 0)) := fun k b h => by
    obtain ⟨_, _, he, _⟩ := hst3.en k b h
    obtain ⟨c, hc⟩ := he.blk
    exact ⟨c, hf4.keep hc (fun h => h.elim (ne_of_type hc hst3.st rfl) (ne_map hc hst3.mp))⟩
  obtain ⟨cR, hcR, hcs, hct⟩ := hb.ptr
  have hRS : bR ≠ bS := ne_of_type hcR hst.st rfl
  have hRT : bR ≠ bT := ne_map hcR hst.mp
  have hcR4 : w4.heap[bR]? = some (.cells cR 26 (0, 0)) := hf4.keep (hf3.keep hcR id) (fun h => h.elim hRS hRT)
  refine WP.seqc (fun F wr => w4 = wr ∧ Has F [(13, .pointer (some ⟨bS, 0, none⟩)), (15, ptrOf xb), (18, ptrOf (lk L key)), (19, .bool (lk L key).isSome)]) ?_ ?_
  · refine WP.seq ?_
    have LT13 := lt_of hs4
    refine WP.region ?_
    refine RL.val rfl (ex_move (by conv => lhs; whnf)) ?_
    refine RL.val rfl (ex_len (by conv => lhs; whnf) Yba.sl22) ?_
    refine RL.val rfl (ex_move (by conv => lhs; whnf)) ?_
    refine RL.nil ?_
    refine WP.block ?_
    refine WP.loopk (fun mm F wr => w4 = wr ∧ ∃ i : Nat, mm = n - i ∧ i ≤ n ∧ Has F [(13, .pointer (some ⟨bS, 0, none⟩)), (14, .slice (some ⟨bR, 0, none⟩) n n), (15, ptrOf xb), (16, .string key), (18, ptrOf (lk L key)), (19, .bool (lk L key).isSome), (124, .slice ka n kc), (125, .int .i64 (n : Nat)), (126, .int .i64 (i : Nat))]) n
      ⟨rfl, 0, rfl, Nat.zero_le _, rfl, rfl, rfl, rfl, rfl, rfl, rfl, rfl, rfl, trivial⟩ ?_
    rintro mm F wr ⟨rfl, i, rfl, hi, hF⟩ K' hK'
    obtain ⟨G, rfl⟩ := hF.get
    clear hF
    refine WP.seq ?_
    have LT13 := lt_of hs4
    refine WP.region ?_
    refine RL.val rfl (ex_lss (by conv => lhs; whnf) (by conv => lhs; whnf)) ?_
    refine RL.nil ?_
    refine WP.seq ?_
    refine WP.cond _ (by conv => lhs; whnf) (fun hlt1 => ?_) (fun hlt1 => ?_)
    rotate_left
    · refine WP.exit ?_
      repeat (first | refine thenQ_exit ?_ | refine blockQ_hit ?_ | refine blockQ_miss rfl ?_)
      exact ⟨rfl, rfl, rfl, rfl, rfl, trivial⟩
    have hik : i < n := by have := of_decide_eq_true hlt1; omega
    obtain ⟨k, hk⟩ : ∃ k, K[i]? = some k := ⟨_, List.getElem?_eq_getElem (by omega)⟩
    obtain ⟨bb, oo, rfl, hbb, hcell⟩ := hK4.at_ i k hk
    have hfnd := hb.fnd i k (by omega) hk
    refine WP.skip ?_
    refine WP.seq ?_
    refine WP.block ?_
    refine WP.seq ?_
    refine WP.region ?_
    refine RL.val rfl (ex_move (by conv => lhs; whnf)) ?_
    refine RL.val rfl (ex_ixa (by conv => lhs; whnf) (by conv => lhs; whnf) Yba.sl22 Yba.sz9 rfl (by omega)) ?_
    refine RL.val rfl (ex_load (by conv => lhs; whnf) Yba.sc9 hcell) ?_
    refine RL.val rfl (ex_assign (by conv => lhs; whnf)) ?_
    refine RL.val rfl (ex_assign (by conv => lhs; whnf)) ?_
    refine RL.nil ?_
    refine WP.seq ?_
    refine WP.seq ?_
    refine WP.region ?_
    refine RL.val rfl (ex_move (by conv => lhs; whnf)) ?_
    refine RL.val rfl (ex_move (by conv => lhs; whnf)) ?_
    refine RL.val rfl (ex_eql_str (by conv => lhs; whnf) (by conv => lhs; whnf)) ?_
    refine RL.nil ?_
    by_cases hkk : k = key
    · refine WP.cond_true (congrArg Value.bool (decide_eq_true hkk)) ?_
      refine WP.exit ?_
      repeat (first | refine thenQ_exit ?_ | refine blockQ_hit ?_ | refine blockQ_miss rfl ?_)
      refine WP.region ?_
      refine RL.val rfl (ex_add (c := ((i + 1 : Nat) : Int)) (by conv => lhs; whnf) (by conv => lhs; whnf) (by rw [IntKind.wrap_i64]; omega)) ?_
      refine RL.val rfl (ex_move (by conv => lhs; whnf)) ?_
      refine RL.nil ?_
      exact hK' (n - (i + 1)) _ _ (by omega) ⟨rfl, i + 1, rfl, by omega, rfl, rfl, rfl, rfl, rfl, rfl, rfl, rfl, rfl, trivial⟩
    · refine WP.cond_false (congrArg Value.bool (decide_eq_false hkk)) ?_
      refine WP.skip ?_
      have hlk : lk (del L key) k = some (p i) := by rw [del_other hkk]; exact hfnd
      obtain ⟨ce, hce⟩ := hblk k (p i) (lk_mem hfnd)
      refine WP.seq ?_
      refine WP.region ?_
      refine RL.val rfl (ex_move (by conv => lhs; whnf)) ?_
      refine RL.val rfl (ex_nilCheck (by conv => lhs; whnf)) ?_
      refine RL.val rfl (ex_fieldAddr (by conv => lhs; whnf) Yba.fo46_5) ?_
      refine RL.val rfl (ex_loadB (by conv => lhs; whnf) Yba.sc42 hs4 (by conv => lhs; whnf)) ?_
      refine RL.val rfl (ex_move (by conv => lhs; whnf)) ?_
      refine RL.val rfl (ex_lookup_at (by conv => lhs; whnf) (by conv => lhs; whnf) Yba.mp42 Yba.st9 Yba.zo26 hm4 hlk) ?_
      refine RL.val rfl (ex_move (by conv => lhs; whnf)) ?_
      refine RL.val rfl (ex_extract (by conv => lhs; whnf) rfl) ?_
      refine RL.val rfl (ex_extract (by conv => lhs; whnf) rfl) ?_
      refine RL.val rfl (ex_assign (by conv => lhs; whnf)) ?_
      refine RL.val rfl (ex_assign (by conv => lhs; whnf)) ?_
      refine RL.nil ?_
      refine WP.seq ?_
      refine WP.region ?_
      refine RL.val rfl (ex_move (by conv => lhs; whnf)) ?_
      refine RL.val rfl (ex_not (by conv => lhs; whnf)) ?_
      refine RL.val rfl (ex_move (by conv => lhs; whnf)) ?_
      refine RL.take (dj := 145) rfl rfl ?_
      refine RL.val rfl (ex_move (by conv => lhs; whnf)) ?_
      refine RL.take (dj := 145) rfl rfl ?_
      refine RL.val rfl (ex_move (by conv => lhs; whnf)) ?_
      refine RL.take (dj := 145) rfl rfl ?_
      refine RL.val rfl (ex_move (by conv => lhs; whnf)) ?_
      refine RL.take (dj := 145) rfl rfl ?_
      refine RL.val rfl (ex_ix1 (by conv => lhs; whnf) (by conv => lhs; whnf) Yba.sl25 Yba.sz26 rfl (by omega)) ?_
      refine RL.take (dj := 145) rfl rfl ?_
      refine RL.val rfl (ex_load (by conv => lhs; whnf) Yba.sc26 (cellOf hcR4 (hct i (by omega)))) ?_
      refine RL.take (dj := 145) rfl rfl ?_
      refine RL.val rfl (ex_neq_ptr (by conv => lhs; whnf) (by conv => lhs; whnf) Yba.pt26 Yba.sz53 rfl hce hce) ?_
      refine RL.val rfl (ex_pick_f rfl (by conv => lhs; whnf)) ?_
      refine RL.nil ?_
      refine WP.cond_false (congrArg Value.bool (by simp)) ?_
      refine WP.skip ?_
      refine WP.region ?_
      refine RL.val rfl (ex_add (c := ((i + 1 : Nat) : Int)) (by conv => lhs; whnf) (by conv => lhs; whnf) (by rw [IntKind.wrap_i64]; omega)) ?_
      refine RL.val rfl (ex_move (by conv => lhs; whnf)) ?_
      refine RL.nil ?_
      exact hK' (n - (i + 1)) _ _ (by omega) ⟨rfl, i + 1, rfl, by omega, rfl, rfl, rfl, rfl, rfl, rfl, rfl, rfl, rfl, trivial⟩
  rintro F wr ⟨rfl, hF⟩
  obtain ⟨G, rfl⟩ := hF.get
  clear hF
  have hxb : ∀ o, lk L key = o → xb' = if o.isSome ∧ xb = o then none else xb := by
    rintro (_ | b) hl
    · simp [(hnone hl).2]
    · obtain ⟨cp, exp, he, hx⟩ := hst.en key b (lk_mem hl)
      rw [(hsome b cp exp hl (he.keep hf3 id)).2]
      simp
  refine WP.seqc (fun F wr => w4 = wr) ?_ ?_
  · refine WP.seq ?_
    have LT13 := lt_of hs4
    cases hxb0 : xb with
    | none =>
      have hx' : xb' = none := by rw [hxb _ rfl, hxb0]; split <;> rfl
      subst hx'
      refine WP.region ?_
      refine RL.val rfl (ex_move (by conv => lhs; whnf)) ?_
      refine RL.val rfl (ex_neq_nil (by conv => lhs; whnf) (by conv => lhs; whnf) Yba.pt26) ?_
      refine RL.nil ?_
      refine WP.cond_false rfl ?_
      refine WP.seq ?_
      refine WP.region ?_
      refine RL.val rfl (ex_move (by conv => lhs; whnf)) ?_
      refine RL.val rfl (ex_nilCheck (by conv => lhs; whnf)) ?_
      refine RL.val rfl (ex_fieldAddr (by conv => lhs; whnf) Yba.fo46_7) ?_
      refine RL.val rfl (ex_fieldAddr (by conv => lhs; whnf) Yba.fo44_0) ?_
      refine RL.val rfl (ex_loadB (by conv => lhs; whnf) Yba.sc26 hs4 (by conv => lhs; whnf)) ?_
      refine RL.val rfl (ex_neq_nil (by conv => lhs; whnf) (by conv => lhs; whnf) Yba.pt26) ?_
      refine RL.nil ?_
      refine WP.cond_false rfl ?_
      exact WP.skip rfl
    | some x =>
      obtain ⟨kx, hkx⟩ := hb.xin x hxb0
      obtain ⟨cx, hcx⟩ := hblk kx x hkx
      refine WP.region ?_
      refine RL.val rfl (ex_move (by conv => lhs; whnf)) ?_
      refine RL.val rfl (ex_neq_nil (by conv => lhs; whnf) (by conv => lhs; whnf) Yba.pt26) ?_
      refine RL.nil ?_
      refine WP.cond_true rfl ?_
      refine WP.seq ?_
      cases hl : lk L key with
      | none =>
        have hx' : xb' = some x := by rw [hxb none hl, hxb0]; rfl
        subst hx'
        refine WP.region ?_
        refine RL.val rfl (ex_move (by conv => lhs; whnf)) ?_
        refine RL.val rfl (ex_move (by conv => lhs; whnf)) ?_
        refine RL.skip (dj := 157) (b := false) rfl rfl rfl rfl ?_
        refine RL.skip (dj := 157) (b := false) rfl rfl rfl rfl ?_
        refine RL.skip (dj := 157) (b := false) rfl rfl rfl rfl ?_
        refine RL.val rfl (ex_pick_f rfl (by conv => lhs; whnf)) ?_
        refine RL.nil ?_
        refine WP.cond_false rfl ?_
        refine WP.seq ?_
        refine WP.region ?_
        refine RL.val rfl (ex_move (by conv => lhs; whnf)) ?_
        refine RL.val rfl (ex_nilCheck (by conv => lhs; whnf)) ?_
        refine RL.val rfl (ex_fieldAddr (by conv => lhs; whnf) Yba.fo46_7) ?_
        refine RL.val rfl (ex_fieldAddr (by conv => lhs; whnf) Yba.fo44_0) ?_
        refine RL.val rfl (ex_loadB (by conv => lhs; whnf) Yba.sc26 hs4 (by conv => lhs; whnf)) ?_
        refine RL.val rfl (ex_move (by conv => lhs; whnf)) ?_
        refine RL.val rfl (ex_neq_ptr (by conv => lhs; whnf) (by conv => lhs; whnf) Yba.pt26 Yba.sz53 rfl hcx hcx) ?_
        refine RL.nil ?_
        refine WP.cond_false (congrArg Value.bool (by simp)) ?_
        exact WP.skip rfl
      | some b =>
        obtain ⟨cb, hcb⟩ := hblk key b (lk_mem hl)
        refine WP.region ?_
        refine RL.val rfl (ex_move (by conv => lhs; whnf)) ?_
        refine RL.val rfl (ex_move (by conv => lhs; whnf)) ?_
        refine RL.take (dj := 157) rfl rfl ?_
        refine RL.val rfl (ex_move (by conv => lhs; whnf)) ?_
        refine RL.take (dj := 157) rfl rfl ?_
        refine RL.val rfl (ex_move (by conv => lhs; whnf)) ?_
        refine RL.take (dj := 157) rfl rfl ?_
        refine RL.val rfl (ex_eql_ptr (by conv => lhs; whnf) (by conv => lhs; whnf) Yba.pt26 Yba.sz53 rfl hcx hcb) ?_
        refine RL.val rfl (ex_pick_t rfl (by conv => lhs; whnf)) ?_
        refine RL.nil ?_
        by_cases hxe : x = b
        · subst hxe
          have hx' : xb' = none := by rw [hxb _ hl, hxb0]; simp
          subst hx'
          refine WP.cond_true (congrArg Value.bool (decide_eq_true rfl)) ?_
          refine WP.seq ?_
          refine WP.region ?_
          refine RL.val rfl (ex_move (by conv => lhs; whnf)) ?_
          refine RL.val rfl (ex_nilCheck (by conv => lhs; whnf)) ?_
          refine RL.val rfl (ex_fieldAddr (by conv => lhs; whnf) Yba.fo46_7) ?_
          refine RL.val rfl (ex_fieldAddr (by conv => lhs; whnf) Yba.fo44_0) ?_
          refine RL.val rfl (ex_loadB (by conv => lhs; whnf) Yba.sc26 hs4 (by conv => lhs; whnf)) ?_
          refine RL.val rfl (ex_neq_nil (by conv => lhs; whnf) (by conv => lhs; whnf) Yba.pt26) ?_
          refine RL.nil ?_
          refine WP.cond_false rfl ?_
          exact WP.skip rfl
        · have hx' : xb' = some x := by rw [hxb _ hl, hxb0]; simp [hxe]
          subst hx'
          refine WP.cond_false (congrArg Value.bool (decide_eq_false hxe)) ?_
          refine WP.seq ?_
          refine WP.region ?_
          refine RL.val rfl (ex_move (by conv => lhs; whnf)) ?_
          refine RL.val rfl (ex_nilCheck (by conv => lhs; whnf)) ?_
          refine RL.val rfl (ex_fieldAddr (by conv => lhs; whnf) Yba.fo46_7) ?_
          refine RL.val rfl (ex_fieldAddr (by conv => lhs; whnf) Yba.fo44_0) ?_
          refine RL.val rfl (ex_loadB (by conv => lhs; whnf) Yba.sc26 hs4 (by conv => lhs; whnf)) ?_
          refine RL.val rfl (ex_move (by conv => lhs; whnf)) ?_
          refine RL.val rfl (ex_neq_ptr (by conv => lhs; whnf) (by conv => lhs; whnf) Yba.pt26 Yba.sz53 rfl hcx hcx) ?_
          refine RL.nil ?_
          refine WP.cond_false (congrArg Value.bool (by simp)) ?_
          exact WP.skip rfl
  rintro F wr rfl
  refine WP.seq ?_
  refine WP.region ?_
  refine RL.val rfl (ex_assign (by conv => lhs; whnf)) ?_
  refine RL.nil ?_
  refine WP.ret ?_
  repeat (first | refine thenQ_ret ?_ | refine blockQ_ret ?_)
  exact bodyQ_tmp rfl ⟨rfl, hfr4⟩
end Go.Proofs.Ybulknmm
