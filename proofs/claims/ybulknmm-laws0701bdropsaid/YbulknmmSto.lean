/- The store, its map, its entries; remove by its contract. -/
import Derived.Test.YbulknmmTy
namespace Go.Proofs.Ybulknmm
open Go Go.Eng Go.RowKit
set_option linter.unusedSimpArgs false
set_option linter.unusedVariables false

abbrev NEVER : Int := 9223372036854775807
abbrev storeRow (bT : Nat) (bytes : Int) (root : Value) : Array Value := #[.int .i64 0, .int .i64 0, .int .u64 0, .int .i64 0, .pointer none, .nilFunc, .int .i32 0, .int .u32 0, .map (some bT), .int .i64 bytes, root, .int .u64 0, .int .u64 0, .int .i64 0, .pointer none]
abbrev entRow (k : ByteArray) (va : Option Addr) (l cp : Nat) (cas exp tl tb : Int) : Array Value := #[.string k, .slice va l cp, .int .u64 cas, .int .u32 0, .int .i64 exp, .int .i64 0, .int .u32 0, .pointer none, .pointer none, .int .i64 tl, .int .i64 tb]
def szOf (k : ByteArray) (cp : Nat) : Int := IntKind.i64.wrap (IntKind.i64.wrap (((k.size : Nat) : Int) + ((cp : Nat) : Int)) + 168)
structure Ent (w : World) (k : ByteArray) (b cp : Nat) (exp : Int) : Prop where
  row : ∃ va l cas tl tb, w.heap[b]? = some (.cells (entRow k va l cp cas exp tl tb) 53 (0, 0))
theorem Ent.keep {w w' : World} {k : ByteArray} {b cp : Nat} {exp : Int} {S : Nat → Prop} (h : Ent w k b cp exp) (hf : Fr S w w') (hn : ¬ S b) : Ent w' k b cp exp := ⟨let ⟨va, l, cas, tl, tb, h1⟩ := h.row; ⟨va, l, cas, tl, tb, hf.keep h1 hn⟩⟩
theorem Ent.blk {w : World} {k : ByteArray} {b cp : Nat} {exp : Int} (h : Ent w k b cp exp) : ∃ c, w.heap[b]? = some (.cells c 53 (0, 0)) := let ⟨_, _, _, _, _, h1⟩ := h.row; ⟨_, h1⟩
structure Sto (w : World) (bS bT : Nat) (L : List (ByteArray × Nat)) (bytes : Int) (xb : Option Nat) : Prop where
  st : w.heap[bS]? = some (.cells (storeRow bT bytes (ptrOf xb)) 46 (0, 0))
  mp : MapIs w bT L
  nd : (L.map (·.1)).Nodup
  en : ∀ k b, (k, b) ∈ L → ∃ cp exp, Ent w k b cp exp ∧ (exp ≠ NEVER ↔ xb = some b)

theorem ne_map {w : World} {b r : Nat} {L : List (ByteArray × Nat)} {c : Array Value} {T : TypeId} {fz : Nat × Nat} (h : w.heap[b]? = some (.cells c T fz)) (hm : MapIs w r L) : b ≠ r := by
  rintro rfl
  obtain ⟨es, cl, h1, _⟩ := hm.ex
  rw [h1] at h
  cases h
theorem Sto.keep {w w' : World} {bS bT : Nat} {L : List (ByteArray × Nat)} {bytes : Int} {xb : Option Nat} {S : Nat → Prop} (h : Sto w bS bT L bytes xb) (hf : Fr S w w') (h1 : ¬ S bS) (h2 : ¬ S bT) (h3 : ∀ k b, (k, b) ∈ L → ¬ S b) : Sto w' bS bT L bytes xb :=
  ⟨hf.keep h.st h1, h.mp.keep hf h2, h.nd, fun k b hb => let ⟨cp, exp, he, hx⟩ := h.en k b hb; ⟨cp, exp, he.keep hf (h3 k b hb), hx⟩⟩
theorem Sto.pure {w w' : World} {bS bT : Nat} {L : List (ByteArray × Nat)} {bytes : Int} {xb : Option Nat} (h : Sto w bS bT L bytes xb) (hf : Fr (fun _ => False) w w') : Sto w' bS bT L bytes xb := h.keep hf id id (fun _ _ _ => id)

theorem heldIn {w : World} {va : Option Addr} {l cp : Nat} : Calls Yba.prog 9 #[.slice va l cp] w fun e w' => ∃ v, e = .returned v ∧ (v = .int .i64 (cp : Nat) ∧ w' = w) := by
  refine calls_of Yba.func9 rfl rfl ?_
  refine WP.seq ?_
  refine WP.region ?_
  refine RL.val rfl (ex_assign (by conv => lhs; whnf)) ?_
  refine RL.nil ?_
  refine WP.seq ?_
  refine WP.region ?_
  refine RL.val rfl (ex_move (by conv => lhs; whnf)) ?_
  refine RL.val rfl (ex_cap (by conv => lhs; whnf) Yba.sl23) ?_
  refine RL.val rfl (ex_assign (by conv => lhs; whnf)) ?_
  refine RL.nil ?_
  refine WP.ret ?_
  repeat (first | refine thenQ_ret ?_ | refine blockQ_ret ?_)
  exact bodyQ_tmp rfl ⟨rfl, rfl⟩
theorem itemSize {w : World} {k : ByteArray} {cp : Nat} : Calls Yba.prog 8 #[.string k, .int .i64 (cp : Nat)] w fun e w' => ∃ v, e = .returned v ∧ (v = .int .i64 (szOf k cp) ∧ w' = w) := by
  refine calls_of Yba.func8 rfl rfl ?_
  refine WP.seq ?_
  refine WP.region ?_
  refine RL.val rfl (ex_assign (by conv => lhs; whnf)) ?_
  refine RL.nil ?_
  refine WP.seq ?_
  refine WP.region ?_
  refine RL.val rfl (ex_move (by conv => lhs; whnf)) ?_
  refine RL.val rfl (ex_len_str (by conv => lhs; whnf) Yba.st9) ?_
  refine RL.val rfl (ex_move (by conv => lhs; whnf)) ?_
  refine RL.val rfl (ex_add (by conv => lhs; whnf) (by conv => lhs; whnf) rfl) ?_
  refine RL.val rfl (ex_add (by conv => lhs; whnf) (by conv => lhs; whnf) rfl) ?_
  refine RL.val rfl (ex_assign (by conv => lhs; whnf)) ?_
  refine RL.nil ?_
  refine WP.ret ?_
  repeat (first | refine thenQ_ret ?_ | refine blockQ_ret ?_)
  exact bodyQ_tmp rfl ⟨rfl, rfl⟩
set_option maxRecDepth 100000 in
theorem size {w : World} {k : ByteArray} {b cp : Nat} {exp : Int} (h : Ent w k b cp exp) : Calls Yba.prog 6 #[.pointer (some ⟨b, 0, none⟩)] w fun e w' => ∃ v, e = .returned v ∧ (v = .int .i64 (szOf k cp) ∧ Fr (fun _ => False) w w') := by
  have hfr0 : Fr (fun _ => False) w w := Fr.refl w
  obtain ⟨va, l, cas, tl, tb, hb⟩ := h.row
  refine calls_of Yba.func6 rfl rfl ?_
  refine WP.seq ?_
  have LT0 := lt_of hb
  have FRsz := Fr.size hfr0
  refine WP.region ?_
  refine RL.val rfl (ex_assign (by conv => lhs; whnf)) ?_
  refine RL.nil ?_
  refine WP.seq ?_
  refine WP.draw [] (by kernel_rfl) ?_
  refine AE.take 0 rfl (by kernel_rfl) rfl (fun w' hw => ex_move (by conv => lhs; whnf)) (Ext.drew (Ext.refl _) 1) ?_
  refine AE.take 1 rfl (by kernel_rfl) rfl (fun w' hw => ex_nilCheck (by conv => lhs; whnf)) (Ext.drew (Ext.refl _) 1) ?_
  refine AE.take 2 rfl (by kernel_rfl) rfl (fun w' hw => ex_fieldAddr (by conv => lhs; whnf) Yba.fo53_0) (Ext.drew (Ext.refl _) 1) ?_
  refine AE.take 3 rfl (by kernel_rfl) rfl (fun w' hw => ex_loadB (by conv => lhs; whnf) Yba.sc9 (hw.keep hb) (by conv => lhs; whnf)) (Ext.drew (Ext.refl _) 1) ?_
  refine AE.take 4 rfl (by kernel_rfl) rfl (fun w' hw => ex_move (by conv => lhs; whnf)) (Ext.drew (Ext.refl _) 1) ?_
  refine AE.take 5 rfl (by kernel_rfl) rfl (fun w' hw => ex_nilCheck (by conv => lhs; whnf)) (Ext.drew (Ext.refl _) 1) ?_
  refine AE.take 6 rfl (by kernel_rfl) rfl (fun w' hw => ex_fieldAddr (by conv => lhs; whnf) Yba.fo53_1) (Ext.drew (Ext.refl _) 1) ?_
  refine AE.take 7 rfl (by kernel_rfl) rfl (fun w' hw => ex_loadB (by conv => lhs; whnf) Yba.sc23 (hw.keep hb) (by conv => lhs; whnf)) (Ext.drew (Ext.refl _) 1) ?_
  refine AE.call 8 rfl (by kernel_rfl) rfl (ex_call1 rfl (by conv => lhs; whnf) Yba.fun9) heldIn ?_
  rintro v w2 ⟨rfl, rfl⟩
  refine ⟨fun _ => (Ext.drew (Ext.refl _) 1), ?_⟩
  refine AE.call 9 rfl (by kernel_rfl) rfl (ex_call2 rfl (by conv => lhs; whnf) (by conv => lhs; whnf) Yba.fun8) itemSize ?_
  rintro v w2 ⟨rfl, rfl⟩
  refine ⟨fun _ => (Ext.drew (Ext.refl _) 1), ?_⟩
  refine AE.take 10 rfl (by kernel_rfl) rfl (fun w' hw => ex_assign (by conv => lhs; whnf)) (Ext.drew (Ext.refl _) 1) ?_
  refine AE.nil (by kernel_rfl) ?_
  refine WP.ret ?_
  repeat (first | refine thenQ_ret ?_ | refine blockQ_ret ?_)
  exact bodyQ_tmp rfl ⟨rfl, (Fr.drew hfr0 1)⟩
theorem merge {w : World} : Calls Yba.prog 14 #[.pointer none, .pointer none] w fun e w' => ∃ v, e = .returned v ∧ (v = .pointer none ∧ w' = w) := by
  refine calls_of Yba.func14 rfl rfl ?_
  refine WP.seq ?_
  refine WP.region ?_
  refine RL.val rfl (ex_assign (by conv => lhs; whnf)) ?_
  refine RL.nil ?_
  refine WP.block ?_
  refine WP.seq ?_
  refine WP.region ?_
  refine RL.val rfl (ex_move (by conv => lhs; whnf)) ?_
  refine RL.val rfl (ex_eql_nil (by conv => lhs; whnf) (by conv => lhs; whnf) Yba.pt26) ?_
  refine RL.val rfl (ex_assign (by conv => lhs; whnf)) ?_
  refine RL.nil ?_
  refine WP.cond_true rfl ?_
  refine WP.seq ?_
  refine WP.region ?_
  refine RL.val rfl (ex_move (by conv => lhs; whnf)) ?_
  refine RL.val rfl (ex_assign (by conv => lhs; whnf)) ?_
  refine RL.nil ?_
  refine WP.ret ?_
  repeat (first | refine thenQ_ret ?_ | refine blockQ_ret ?_)
  exact bodyQ_tmp rfl ⟨rfl, rfl⟩
set_option maxRecDepth 100000 in
theorem removeT {w : World} {k : ByteArray} {b cp : Nat} {exp : Int} (h : Ent w k b cp exp) : Calls Yba.prog 13 #[.pointer (some ⟨b, 0, none⟩), .pointer (some ⟨b, 0, none⟩)] w fun e w' => ∃ v, e = .returned v ∧ (v = .pointer none ∧ Fr (fun _ => False) w w') := by
  have hfr0 : Fr (fun _ => False) w w := Fr.refl w
  obtain ⟨va, l, cas, tl, tb, hb⟩ := h.row
  refine calls_of Yba.func13 rfl rfl ?_
  refine WP.seq ?_
  have LT1 := lt_of hb
  have FRsz := Fr.size hfr0
  refine WP.region ?_
  refine RL.val rfl (ex_assign (by conv => lhs; whnf)) ?_
  refine RL.nil ?_
  refine WP.seq ?_
  refine WP.block ?_
  refine WP.seq ?_
  refine WP.region ?_
  refine RL.val rfl (ex_move (by conv => lhs; whnf)) ?_
  refine RL.val rfl (ex_eql_nil (by conv => lhs; whnf) (by conv => lhs; whnf) Yba.pt26) ?_
  refine RL.val rfl (ex_assign (by conv => lhs; whnf)) ?_
  refine RL.nil ?_
  refine WP.cond_false rfl ?_
  refine WP.seq ?_
  refine WP.region ?_
  refine RL.val rfl (ex_move (by conv => lhs; whnf)) ?_
  refine RL.val rfl (ex_move (by conv => lhs; whnf)) ?_
  refine RL.val rfl (ex_eql_ptr (by conv => lhs; whnf) (by conv => lhs; whnf) Yba.pt26 Yba.sz53 rfl hb hb) ?_
  refine RL.val rfl (ex_assign (by conv => lhs; whnf)) ?_
  refine RL.nil ?_
  refine WP.cond_true (congrArg Value.bool (decide_eq_true rfl)) ?_
  refine WP.seq ?_
  refine WP.draw [] (by kernel_rfl) ?_
  refine AE.take 0 rfl (by kernel_rfl) rfl (fun w' hw => ex_move (by conv => lhs; whnf)) (Ext.drew (Ext.refl _) 1) ?_
  refine AE.take 1 rfl (by kernel_rfl) rfl (fun w' hw => ex_nilCheck (by conv => lhs; whnf)) (Ext.drew (Ext.refl _) 1) ?_
  refine AE.take 2 rfl (by kernel_rfl) rfl (fun w' hw => ex_fieldAddr (by conv => lhs; whnf) Yba.fo53_7) (Ext.drew (Ext.refl _) 1) ?_
  refine AE.take 3 rfl (by kernel_rfl) rfl (fun w' hw => ex_loadB (by conv => lhs; whnf) Yba.sc26 (hw.keep hb) (by conv => lhs; whnf)) (Ext.drew (Ext.refl _) 1) ?_
  refine AE.take 4 rfl (by kernel_rfl) rfl (fun w' hw => ex_move (by conv => lhs; whnf)) (Ext.drew (Ext.refl _) 1) ?_
  refine AE.take 5 rfl (by kernel_rfl) rfl (fun w' hw => ex_nilCheck (by conv => lhs; whnf)) (Ext.drew (Ext.refl _) 1) ?_
  refine AE.take 6 rfl (by kernel_rfl) rfl (fun w' hw => ex_fieldAddr (by conv => lhs; whnf) Yba.fo53_8) (Ext.drew (Ext.refl _) 1) ?_
  refine AE.take 7 rfl (by kernel_rfl) rfl (fun w' hw => ex_loadB (by conv => lhs; whnf) Yba.sc26 (hw.keep hb) (by conv => lhs; whnf)) (Ext.drew (Ext.refl _) 1) ?_
  refine AE.call 8 rfl (by kernel_rfl) rfl (ex_call2 rfl (by conv => lhs; whnf) (by conv => lhs; whnf) Yba.fun14) merge ?_
  rintro v w2 ⟨rfl, rfl⟩
  refine ⟨fun _ => (Ext.drew (Ext.refl _) 1), ?_⟩
  refine AE.take 9 rfl (by kernel_rfl) rfl (fun w' hw => ex_assign (by conv => lhs; whnf)) (Ext.drew (Ext.refl _) 1) ?_
  refine AE.nil (by kernel_rfl) ?_
  refine WP.ret ?_
  repeat (first | refine thenQ_ret ?_ | refine blockQ_ret ?_)
  exact bodyQ_tmp rfl ⟨rfl, (Fr.drew hfr0 1)⟩
set_option maxRecDepth 100000 in
theorem removeQ {w : World} {k : ByteArray} {b cp bS bT : Nat} {exp bytes : Int} (h : Ent w k b cp exp) (hs : w.heap[bS]? = some (.cells (storeRow bT bytes (.pointer (some ⟨b, 0, none⟩))) 46 (0, 0))) :
    Calls Yba.prog 12 #[.pointer (some ⟨bS, 0 + 10, none⟩), .pointer (some ⟨b, 0, none⟩)] w fun e w' => ∃ v, e = .returned v ∧ (w'.heap[bS]? = some (.cells (storeRow bT bytes (.pointer none)) 46 (0, 0)) ∧ Fr (fun g => g = bS) w w') := by
  have hfr0 : Fr (fun g => g = bS) w w := Fr.refl w
  refine calls_of Yba.func12 rfl rfl ?_
  have LT0 := lt_of hs
  have FRsz := Fr.size hfr0
  refine WP.region ?_
  refine RL.val rfl (ex_move (by conv => lhs; whnf)) ?_
  refine RL.val rfl (ex_move (by conv => lhs; whnf)) ?_
  refine RL.val rfl (ex_nilCheck (by conv => lhs; whnf)) ?_
  refine RL.val rfl (ex_fieldAddr (by conv => lhs; whnf) Yba.fo44_0) ?_
  refine RL.val rfl (ex_loadB (by conv => lhs; whnf) Yba.sc26 hs (by conv => lhs; whnf)) ?_
  refine RL.val rfl (ex_move (by conv => lhs; whnf)) ?_
  refine RL.call rfl (ex_call2 rfl (by conv => lhs; whnf) (by conv => lhs; whnf) Yba.fun13) (removeT h) ?_
  rintro v w2 ⟨rfl, hf2⟩
  refine RL.val rfl (ex_nilCheck (by conv => lhs; whnf)) ?_
  refine RL.val rfl (ex_fieldAddr (by conv => lhs; whnf) Yba.fo44_0) ?_
  refine RL.unit (ex_store (by conv => lhs; whnf) (by conv => lhs; whnf) Yba.sc26 rfl (hf2.keep hs id) rfl) ?_
  refine RL.nil ?_
  exact bodyQ_none rfl ⟨(sr_eq (hf2.keep hs id)), (Fr.set (Fr.trans hfr0 hf2 (fun _ _ h => h.elim)) _ _ (fun hh => by first | exact rfl | ((try simp only [sz_al, sz_sr, sz_dn] at hh); (try simp only [sz_al, sz_sr, sz_dn]); (first | omega | (dsimp only; omega) | exact .inl rfl | exact .inr (.inl rfl)))))⟩
set_option maxRecDepth 100000 in
theorem uncount {w : World} {k : ByteArray} {b cp bS bT : Nat} {exp bytes : Int} {xb : Option Nat} (h : Ent w k b cp exp) (hx : exp ≠ NEVER ↔ xb = some b) (hs : w.heap[bS]? = some (.cells (storeRow bT bytes (ptrOf xb)) 46 (0, 0))) :
    Calls Yba.prog 11 #[.pointer (some ⟨bS, 0, none⟩), .pointer (some ⟨b, 0, none⟩)] w fun e w' => ∃ v, e = .returned v ∧
      (w'.heap[bS]? = some (.cells (storeRow bT (IntKind.i64.wrap (bytes - szOf k cp)) (ptrOf (if xb = some b then none else xb))) 46 (0, 0)) ∧ Fr (fun g => g = bS) w w') := by
  have hfr0 : Fr (fun g => g = bS) w w := Fr.refl w
  have hne : b ≠ bS := by obtain ⟨c, hc⟩ := h.blk; exact ne_of_type hc hs rfl
  refine calls_of Yba.func11 rfl rfl ?_
  refine WP.seqc (fun F wr => Has F [(0, .pointer (some ⟨bS, 0, none⟩)), (1, .pointer (some ⟨b, 0, none⟩))] ∧ wr.heap[bS]? = some (.cells (storeRow bT bytes (ptrOf (if xb = some b then none else xb))) 46 (0, 0)) ∧ Fr (fun g => g = bS) w wr) ?_ ?_
  · obtain ⟨va, l, cas, tl, tb, hb⟩ := h.row
    refine WP.seq ?_
    have LT0 := lt_of hs
    have LT1 := lt_of hb
    have FRsz := Fr.size hfr0
    refine WP.region ?_
    refine RL.val rfl (ex_move (by conv => lhs; whnf)) ?_
    refine RL.val rfl (ex_nilCheck (by conv => lhs; whnf)) ?_
    refine RL.val rfl (ex_fieldAddr (by conv => lhs; whnf) Yba.fo53_4) ?_
    refine RL.val rfl (ex_loadB (by conv => lhs; whnf) Yba.sc2 hb (by conv => lhs; whnf)) ?_
    refine RL.val rfl (ex_neq (by conv => lhs; whnf) (by conv => lhs; whnf)) ?_
    refine RL.nil ?_
    by_cases hxb : xb = some b
    · refine WP.cond_true (congrArg Value.bool (decide_eq_true (hx.2 hxb))) ?_
      rw [if_pos hxb]
      refine WP.region ?_
      refine RL.val rfl (ex_move (by conv => lhs; whnf)) ?_
      refine RL.val rfl (ex_nilCheck (by conv => lhs; whnf)) ?_
      refine RL.val rfl (ex_fieldAddr (by conv => lhs; whnf) Yba.fo46_7) ?_
      refine RL.val rfl (ex_move (by conv => lhs; whnf)) ?_
      rw [hxb] at hs
      refine RL.call rfl (ex_call2 rfl (by conv => lhs; whnf) (by conv => lhs; whnf) Yba.fun12) (removeQ h hs) ?_
      rintro v w2 ⟨hs2, hf2⟩
      refine RL.nil ?_
      exact ⟨⟨rfl, rfl, trivial⟩, hs2, hf2⟩
    · have hn : exp = NEVER := by
        by_cases he : exp = NEVER
        · exact he
        · exact absurd (hx.1 he) hxb
      refine WP.cond_false (congrArg Value.bool (decide_eq_false (fun hh => hh hn))) ?_
      refine WP.skip ?_
      rw [if_neg hxb]
      exact ⟨⟨rfl, rfl, trivial⟩, hs, hfr0⟩
  · rintro F wr ⟨hF, hs2, hfr⟩
    obtain ⟨G, rfl⟩ := hF.get
    clear hF
    have h2 := h.keep hfr hne
    have LT0 := lt_of hs2
    have FRsz := Fr.size hfr
    refine WP.draw [9] (by kernel_rfl) ?_
    refine AE.take 0 rfl (by kernel_rfl) rfl (fun w' hw => ex_move (by conv => lhs; whnf)) (Ext.drew (Ext.refl _) 1) ?_
    refine AE.take 1 rfl (by kernel_rfl) rfl (fun w' hw => ex_nilCheck (by conv => lhs; whnf)) (Ext.drew (Ext.refl _) 1) ?_
    refine AE.take 2 rfl (by kernel_rfl) rfl (fun w' hw => ex_fieldAddr (by conv => lhs; whnf) Yba.fo46_6) (Ext.drew (Ext.refl _) 1) ?_
    refine AE.take 3 rfl (by kernel_rfl) rfl (fun w' hw => ex_loadB (by conv => lhs; whnf) Yba.sc2 (hw.keep hs2) (by conv => lhs; whnf)) (Ext.drew (Ext.refl _) 1) ?_
    refine AE.take 4 rfl (by kernel_rfl) rfl (fun w' hw => ex_move (by conv => lhs; whnf)) (Ext.drew (Ext.refl _) 1) ?_
    refine AE.call 5 rfl (by kernel_rfl) rfl (ex_call1 rfl (by conv => lhs; whnf) Yba.fun6) (size (h2.keep (Fr.drew (Fr.refl wr) 1) (S := fun _ => False) id)) ?_
    rintro v w2 ⟨rfl, hf2⟩
    refine ⟨fun _ => Ext.trans (Ext.drew (Ext.refl _) 1) (Ext.of_fr hf2), ?_⟩
    refine AE.take 6 rfl (by kernel_rfl) rfl (fun w' hw => ex_sub (by conv => lhs; whnf) (by conv => lhs; whnf) rfl) (Ext.trans (Ext.drew (Ext.refl _) 1) (Ext.of_fr hf2)) ?_
    refine AE.take 7 rfl (by kernel_rfl) rfl (fun w' hw => ex_nilCheck (by conv => lhs; whnf)) (Ext.trans (Ext.drew (Ext.refl _) 1) (Ext.of_fr hf2)) ?_
    refine AE.take 8 rfl (by kernel_rfl) rfl (fun w' hw => ex_fieldAddr (by conv => lhs; whnf) Yba.fo46_6) (Ext.trans (Ext.drew (Ext.refl _) 1) (Ext.of_fr hf2)) ?_
    refine AE.unit 9 rfl (by kernel_rfl) (ex_store (by conv => lhs; whnf) (by conv => lhs; whnf) Yba.sc2 rfl (hf2.keep hs2 id) rfl) (fun h => absurd h (by decide)) ?_
    refine AE.nil (by kernel_rfl) ?_
    exact bodyQ_none rfl ⟨(sr_eq (hf2.keep hs2 id)), (Fr.set (Fr.trans (Fr.drew hfr 1) hf2 (fun _ _ h => h.elim)) _ _ (fun hh => by first | exact rfl | ((try simp only [sz_al, sz_sr, sz_dn] at hh); (try simp only [sz_al, sz_sr, sz_dn]); (first | omega | (dsimp only; omega) | exact .inl rfl | exact .inr (.inl rfl)))))⟩
set_option maxRecDepth 100000 in
theorem drop {w : World} {k : ByteArray} {b cp bS bT : Nat} {exp bytes : Int} {xb : Option Nat} {L : List (ByteArray × Nat)} (hst : Sto w bS bT L bytes xb) (h : Ent w k b cp exp) (hx : exp ≠ NEVER ↔ xb = some b) :
    Calls Yba.prog 10 #[.pointer (some ⟨bS, 0, none⟩), .pointer (some ⟨b, 0, none⟩)] w fun e w' => ∃ v, e = .returned v ∧
      (w'.heap[bS]? = some (.cells (storeRow bT (IntKind.i64.wrap (bytes - szOf k cp)) (ptrOf (if xb = some b then none else xb))) 46 (0, 0)) ∧ MapIs w' bT (del L k) ∧ Fr (fun g => g = bS ∨ g = bT) w w') := by
  have hne : b ≠ bS := by obtain ⟨c, hc⟩ := h.blk; exact ne_of_type hc hst.st rfl
  have hST : bS ≠ bT := ne_map hst.st hst.mp
  refine calls_of Yba.func10 rfl rfl ?_
  refine WP.seq ?_
  refine WP.region ?_
  refine RL.val rfl (ex_move (by conv => lhs; whnf)) ?_
  refine RL.val rfl (ex_move (by conv => lhs; whnf)) ?_
  refine RL.call rfl (ex_call2 rfl (by conv => lhs; whnf) (by conv => lhs; whnf) Yba.fun11) (uncount h hx hst.st) ?_
  rintro v w2 ⟨hs2, hf2⟩
  refine RL.nil ?_
  have hm2 := hst.mp.keep hf2 (fun e => hST e.symm)
  obtain ⟨va, l, cas, tl, tb, hb⟩ := (h.keep hf2 hne).row
  have LT0 := lt_of hs2
  have LT1 := lt_of hb
  refine WP.draw [8] (by kernel_rfl) ?_
  refine AE.take 0 rfl (by kernel_rfl) rfl (fun w' hw => ex_move (by conv => lhs; whnf)) (Ext.drew (Ext.refl _) 1) ?_
  refine AE.take 1 rfl (by kernel_rfl) rfl (fun w' hw => ex_nilCheck (by conv => lhs; whnf)) (Ext.drew (Ext.refl _) 1) ?_
  refine AE.take 2 rfl (by kernel_rfl) rfl (fun w' hw => ex_fieldAddr (by conv => lhs; whnf) Yba.fo46_5) (Ext.drew (Ext.refl _) 1) ?_
  refine AE.take 3 rfl (by kernel_rfl) rfl (fun w' hw => ex_loadB (by conv => lhs; whnf) Yba.sc42 (hw.keep hs2) (by conv => lhs; whnf)) (Ext.drew (Ext.refl _) 1) ?_
  refine AE.take 4 rfl (by kernel_rfl) rfl (fun w' hw => ex_move (by conv => lhs; whnf)) (Ext.drew (Ext.refl _) 1) ?_
  refine AE.take 5 rfl (by kernel_rfl) rfl (fun w' hw => ex_nilCheck (by conv => lhs; whnf)) (Ext.drew (Ext.refl _) 1) ?_
  refine AE.take 6 rfl (by kernel_rfl) rfl (fun w' hw => ex_fieldAddr (by conv => lhs; whnf) Yba.fo53_0) (Ext.drew (Ext.refl _) 1) ?_
  refine AE.take 7 rfl (by kernel_rfl) rfl (fun w' hw => ex_loadB (by conv => lhs; whnf) Yba.sc9 (hw.keep hb) (by conv => lhs; whnf)) (Ext.drew (Ext.refl _) 1) ?_
  refine AE.deleteS 8 rfl (by kernel_rfl) (by conv => lhs; whnf) (by conv => lhs; whnf) rfl Yba.mp42 Yba.st9 (hm2.ext (fun o ho => ho)) rfl ?_
  intro w3 hm3 hf3
  refine AE.nil (by kernel_rfl) ?_
  have hf23 : Fr (fun g => g = bT) w2 w3 := (Fr.drew (Fr.refl w2) 1).trans hf3 (fun _ _ h => h)
  exact bodyQ_none rfl ⟨hf23.keep hs2 hST, hm3, (hf2.mono (fun _ _ h => .inl h)).trans hf23 (fun _ _ h => .inr h)⟩
set_option maxRecDepth 100000 in
theorem remove {w : World} {key : ByteArray} {bS bT : Nat} {bytes : Int} {xb : Option Nat} {L : List (ByteArray × Nat)} (hst : Sto w bS bT L bytes xb) :
    Calls Yba.prog 7 #[.pointer (some ⟨bS, 0, none⟩), .string key] w fun e w' => ∃ v, e = .returned v ∧
      (∃ bytes' xb', w'.heap[bS]? = some (.cells (storeRow bT bytes' (ptrOf xb')) 46 (0, 0)) ∧ MapIs w' bT (del L key) ∧ Fr (fun g => g = bS ∨ g = bT) w w' ∧
        (lk L key = none → bytes' = bytes ∧ xb' = xb) ∧ (∀ b cp exp, lk L key = some b → Ent w key b cp exp → bytes' = IntKind.i64.wrap (bytes - szOf key cp) ∧ xb' = if xb = some b then none else xb)) := by
  refine calls_of Yba.func7 rfl rfl ?_
  have hs := hst.st
  refine WP.seq ?_
  have LT0 := lt_of hs
  refine WP.region ?_
  refine RL.val rfl (ex_move (by conv => lhs; whnf)) ?_
  refine RL.val rfl (ex_nilCheck (by conv => lhs; whnf)) ?_
  refine RL.val rfl (ex_fieldAddr (by conv => lhs; whnf) Yba.fo46_5) ?_
  refine RL.val rfl (ex_loadB (by conv => lhs; whnf) Yba.sc42 hs (by conv => lhs; whnf)) ?_
  refine RL.val rfl (ex_move (by conv => lhs; whnf)) ?_
  refine RL.val rfl (ex_lookupS (by conv => lhs; whnf) (by conv => lhs; whnf) Yba.mp42 Yba.st9 Yba.zo26 hst.mp) ?_
  refine RL.val rfl (ex_move (by conv => lhs; whnf)) ?_
  refine RL.val rfl (ex_extract (by conv => lhs; whnf) rfl) ?_
  refine RL.val rfl (ex_extract (by conv => lhs; whnf) rfl) ?_
  refine RL.val rfl (ex_assign (by conv => lhs; whnf)) ?_
  refine RL.val rfl (ex_assign (by conv => lhs; whnf)) ?_
  refine RL.nil ?_
  refine WP.seq ?_
  refine WP.region ?_
  refine RL.val rfl (ex_move (by conv => lhs; whnf)) ?_
  refine RL.nil ?_
  cases hl : lk L key with
  | none =>
    refine WP.cond_false rfl ?_
    refine WP.skip ?_
    refine bodyQ_none rfl ⟨bytes, xb, hs, by rw [del_none hl]; exact hst.mp, Fr.refl _, fun _ => ⟨rfl, rfl⟩, fun b _ _ h => by cases h⟩
  | some b =>
    obtain ⟨cp, exp, he, hx⟩ := hst.en key b (lk_mem hl)
    refine WP.cond_true rfl ?_
    refine WP.region ?_
    refine RL.val rfl (ex_move (by conv => lhs; whnf)) ?_
    refine RL.val rfl (ex_move (by conv => lhs; whnf)) ?_
    refine RL.call rfl (ex_call2 rfl (by conv => lhs; whnf) (by conv => lhs; whnf) Yba.fun10) (drop hst he hx) ?_
    rintro v w2 ⟨h1, h2, h3⟩
    refine RL.nil ?_
    refine bodyQ_none rfl ⟨_, _, h1, h2, h3, fun h => (by cases h), fun b' cp' exp' h' he' => ?_⟩
    cases h'
    obtain ⟨_, _, _, _, _, r1⟩ := he.row
    obtain ⟨_, _, _, _, _, r2⟩ := he'.row
    rw [r1] at r2
    have : cp = cp' := by simp at r2; exact r2.1.2.2
    subst this
    exact ⟨rfl, rfl⟩
end Go.Proofs.Ybulknmm
