/- Tables and pieces in memory; what is read of them. -/
import Derived.Test.YbulknocFmtLeaf
import Derived.Test.YbulknocFmtOps3
namespace Go.Proofs.YbulknocFmt
open Go Go.Eng Go.RowKit
set_option linter.unusedSimpArgs false
set_option linter.unusedVariables false

theorem Ybaf.pl59 : plainT Ybaf.prog 59 = true := by kernel_rfl
abbrev TIME : ByteArray := ⟨#[95, 116, 105, 109, 101]⟩
structure Tab where
  vals : List Int
  nulls : Option (List Bool)
structure Tab.Ok (t : Tab) : Prop where
  v1 : ∀ v, v ∈ t.vals → -128 ≤ v ∧ v ≤ 127
  n1 : ∀ l, t.nulls = some l → l.length = t.vals.length
  len : t.vals.length ≤ 256
def nullB : Option (List Bool) → Nat → Bool
  | none, _ => false
  | some l, r => l.getD r false
def valI (t : Tab) (r : Nat) : Int := t.vals.getD r 0

structure NullAt (w : World) (B : Nat) (nv : Value) (nulls : Option (List Bool)) : Prop where
  or : (nulls = none ∧ nv = .slice none 0 0) ∨ ∃ l bn cn, nulls = some l ∧ nv = .slice (some ⟨bn, 0, none⟩) l.length l.length ∧ bn < B ∧ w.heap[bn]? = some (.cells cn 4 (0, 0)) ∧ ∀ (j : Nat) b, l[j]? = some b → cn[j]? = some (.bool b)
structure ColAt (w : World) (B bc : Nat) (t : Tab) : Prop where
  ex : bc < B ∧ ∃ bv nv cv, w.heap[bc]? = some (.cells #[.string TIME, .bool false, .iface 59 (.slice (some ⟨bv, 0, none⟩) t.vals.length t.vals.length), nv] 64 (0, 0)) ∧ bv < B ∧ w.heap[bv]? = some (.cells cv 2 (0, 0)) ∧
    (∀ (j : Nat) v, t.vals[j]? = some v → cv[j]? = some (.int .i64 v)) ∧ NullAt w B nv t.nulls
structure TabAt (w : World) (B bt bc : Nat) (t : Tab) : Prop where
  lt : bt < B
  row : w.heap[bt]? = some (.cells #[.slice (some ⟨bc, 0, none⟩) 1 1, .int .i64 (t.vals.length : Nat)] 51 (0, 0))
  col : ColAt w B bc t
structure TabsAt (w : World) (B : Nat) (tv : Value) (T : List Tab) : Prop where
  ex : ∃ bT cT, tv = .slice (some ⟨bT, 0, none⟩) T.length T.length ∧ bT < B ∧ w.heap[bT]? = some (.cells cT 52 (0, 0)) ∧ ∀ (i : Nat) t, T[i]? = some t → ∃ bt bc, cT[i]? = some (.pointer (some ⟨bt, 0, none⟩)) ∧ TabAt w B bt bc t

section
variable {w w' : World} {B : Nat}
theorem NullAt.keep {nv : Value} {nulls : Option (List Bool)} (h : NullAt w B nv nulls) (hf : Fr (fun k => B ≤ k) w w') : NullAt w' B nv nulls :=
  ⟨h.or.imp id fun ⟨l, bn, cn, h1, h2, h3, h4, h5⟩ => ⟨l, bn, cn, h1, h2, h3, hf.keep h4 (by show ¬ B ≤ bn; omega), h5⟩⟩
theorem ColAt.keep {bc : Nat} {t : Tab} (h : ColAt w B bc t) (hf : Fr (fun k => B ≤ k) w w') : ColAt w' B bc t := by
  obtain ⟨h1, bv, nv, cv, h2, h3, h4, h5, h6⟩ := h.ex
  exact ⟨h1, bv, nv, cv, hf.keep h2 (by show ¬ B ≤ bc; omega), h3, hf.keep h4 (by show ¬ B ≤ bv; omega), h5, h6.keep hf⟩
theorem TabAt.keep {bt bc : Nat} {t : Tab} (h : TabAt w B bt bc t) (hf : Fr (fun k => B ≤ k) w w') : TabAt w' B bt bc t :=
  ⟨h.lt, hf.keep h.row (by have := h.lt; show ¬ B ≤ bt; omega), h.col.keep hf⟩
theorem TabsAt.keep {tv : Value} {T : List Tab} (h : TabsAt w B tv T) (hf : Fr (fun k => B ≤ k) w w') : TabsAt w' B tv T := by
  obtain ⟨bT, cT, h1, h2, h3, h4⟩ := h.ex
  exact ⟨bT, cT, h1, h2, hf.keep h3 (by show ¬ B ≤ bT; omega), fun i t ht => let ⟨bt, bc, h5, h6⟩ := h4 i t ht; ⟨bt, bc, h5, h6.keep hf⟩⟩
end
theorem Fr.up {B : Nat} {w w' : World} (h : Fr (fun _ => False) w w') : Fr (fun k => B ≤ k) w w' := h.mono (fun _ _ h => h.elim)

set_option maxRecDepth 100000 in
theorem valueIndex {w : World} {B bc : Nat} {t : Tab} {r : Int} (h : ColAt w B bc t) : Calls Ybaf.prog 25 #[.pointer (some ⟨bc, 0, none⟩), .int .i64 r] w fun e w' => ∃ v, e = .returned v ∧ (v = .int .i64 r ∧ w' = w) := by
  obtain ⟨hbc, bv, nv, cv, hc, _⟩ := h.ex
  refine calls_of Ybaf.func25 rfl rfl ?_
  refine WP.seq ?_
  have LT0 := lt_of hc
  refine WP.region ?_
  refine RL.val rfl (ex_assign (by conv => lhs; whnf)) ?_
  refine RL.nil ?_
  refine WP.seq ?_
  refine WP.seq ?_
  refine WP.region ?_
  refine RL.val rfl (ex_move (by conv => lhs; whnf)) ?_
  refine RL.val rfl (ex_nilCheck (by conv => lhs; whnf)) ?_
  refine RL.val rfl (ex_fieldAddr (by conv => lhs; whnf) Ybaf.fo64_1) ?_
  refine RL.val rfl (ex_loadB (by conv => lhs; whnf) Ybaf.sc4 hc (by conv => lhs; whnf)) ?_
  refine RL.nil ?_
  refine WP.cond_false rfl ?_
  refine WP.skip ?_
  refine WP.seq ?_
  refine WP.region ?_
  refine RL.val rfl (ex_move (by conv => lhs; whnf)) ?_
  refine RL.val rfl (ex_assign (by conv => lhs; whnf)) ?_
  refine RL.nil ?_
  refine WP.ret ?_
  repeat (first | refine thenQ_ret ?_ | refine blockQ_ret ?_)
  exact bodyQ_tmp rfl ⟨rfl, rfl⟩
set_option maxRecDepth 100000 in
theorem nullAt {w : World} {B bc r : Nat} {t : Tab} (h : ColAt w B bc t) (hok : t.Ok) (hr : r < t.vals.length) : Calls Ybaf.prog 29 #[.pointer (some ⟨bc, 0, none⟩), .int .i64 (r : Nat)] w fun e w' => ∃ v, e = .returned v ∧ (v = .bool (nullB t.nulls r) ∧ w' = w) := by
  obtain ⟨hbc, bv, nv, cv, hc, _, _, _, hn⟩ := h.ex
  refine calls_of Ybaf.func29 rfl rfl ?_
  refine WP.seq ?_
  have LT0 := lt_of hc
  refine WP.region ?_
  refine RL.val rfl (ex_assign (by conv => lhs; whnf)) ?_
  refine RL.nil ?_
  refine WP.seq ?_
  rcases hn.or with ⟨h1, rfl⟩ | ⟨l, bn, cn, h1, rfl, hbn, hcn, hcell⟩
  · refine WP.region ?_
    refine RL.val rfl (ex_move (by conv => lhs; whnf)) ?_
    refine RL.val rfl (ex_nilCheck (by conv => lhs; whnf)) ?_
    refine RL.val rfl (ex_fieldAddr (by conv => lhs; whnf) Ybaf.fo64_3) ?_
    refine RL.val rfl (ex_loadB (by conv => lhs; whnf) Ybaf.sc62 hc (by conv => lhs; whnf)) ?_
    refine RL.val rfl (ex_neq_nilslice (by conv => lhs; whnf) (by conv => lhs; whnf) Ybaf.sl62) ?_
    refine RL.val rfl (ex_move (by conv => lhs; whnf)) ?_
    refine RL.skip (dj := 10) (b := false) rfl rfl rfl rfl ?_
    refine RL.skip (dj := 10) (b := false) rfl rfl rfl rfl ?_
    refine RL.skip (dj := 10) (b := false) rfl rfl rfl rfl ?_
    refine RL.skip (dj := 10) (b := false) rfl rfl rfl rfl ?_
    refine RL.skip (dj := 10) (b := false) rfl rfl rfl rfl ?_
    refine RL.skip (dj := 10) (b := false) rfl rfl rfl rfl ?_
    refine RL.skip (dj := 10) (b := false) rfl rfl rfl rfl ?_
    refine RL.val rfl (ex_pick_f rfl (by conv => lhs; whnf)) ?_
    refine RL.val rfl (ex_assign (by conv => lhs; whnf)) ?_
    refine RL.nil ?_
    refine WP.ret ?_
    repeat (first | refine thenQ_ret ?_ | refine blockQ_ret ?_)
    exact bodyQ_tmp rfl ⟨by rw [h1]; rfl, rfl⟩
  · have hll := hok.n1 l h1
    obtain ⟨b, hb⟩ : ∃ b, l[r]? = some b := ⟨_, List.getElem?_eq_getElem (by omega)⟩
    refine WP.region ?_
    refine RL.val rfl (ex_move (by conv => lhs; whnf)) ?_
    refine RL.val rfl (ex_nilCheck (by conv => lhs; whnf)) ?_
    refine RL.val rfl (ex_fieldAddr (by conv => lhs; whnf) Ybaf.fo64_3) ?_
    refine RL.val rfl (ex_loadB (by conv => lhs; whnf) Ybaf.sc62 hc (by conv => lhs; whnf)) ?_
    refine RL.val rfl (ex_neq_nilslice (by conv => lhs; whnf) (by conv => lhs; whnf) Ybaf.sl62) ?_
    refine RL.val rfl (ex_move (by conv => lhs; whnf)) ?_
    refine RL.take (dj := 10) rfl rfl ?_
    refine RL.val rfl (ex_move (by conv => lhs; whnf)) ?_
    refine RL.take (dj := 10) rfl rfl ?_
    refine RL.val rfl (ex_nilCheck (by conv => lhs; whnf)) ?_
    refine RL.take (dj := 10) rfl rfl ?_
    refine RL.val rfl (ex_fieldAddr (by conv => lhs; whnf) Ybaf.fo64_3) ?_
    refine RL.take (dj := 10) rfl rfl ?_
    refine RL.val rfl (ex_loadB (by conv => lhs; whnf) Ybaf.sc62 hc (by conv => lhs; whnf)) ?_
    refine RL.take (dj := 10) rfl rfl ?_
    refine RL.val rfl (ex_move (by conv => lhs; whnf)) ?_
    refine RL.take (dj := 10) rfl rfl ?_
    refine RL.val rfl (ex_ix1 (by conv => lhs; whnf) (by conv => lhs; whnf) Ybaf.sl62 Ybaf.sz4 rfl (by omega)) ?_
    refine RL.take (dj := 10) rfl rfl ?_
    refine RL.val rfl (ex_load (by conv => lhs; whnf) Ybaf.sc4 (cellOf hcn (hcell r b hb))) ?_
    refine RL.val rfl (ex_pick_t rfl (by conv => lhs; whnf)) ?_
    refine RL.val rfl (ex_assign (by conv => lhs; whnf)) ?_
    refine RL.nil ?_
    refine WP.ret ?_
    repeat (first | refine thenQ_ret ?_ | refine blockQ_ret ?_)
    exact bodyQ_tmp rfl ⟨by rw [h1, nullB, List.getD_eq_getElem?_getD, hb]; rfl, rfl⟩
set_option maxRecDepth 100000 in
theorem isNull {w : World} {B bc r : Nat} {t : Tab} (h : ColAt w B bc t) (hok : t.Ok) (hr : r < t.vals.length) : Calls Ybaf.prog 22 #[.pointer (some ⟨bc, 0, none⟩), .int .i64 (r : Nat)] w fun e w' => ∃ v, e = .returned v ∧ (v = .bool (nullB t.nulls r) ∧ w' = w) := by
  refine calls_of Ybaf.func22 rfl rfl ?_
  refine WP.seq ?_
  refine WP.region ?_
  refine RL.val rfl (ex_assign (by conv => lhs; whnf)) ?_
  refine RL.nil ?_
  refine WP.seq ?_
  refine WP.region ?_
  refine RL.val rfl (ex_move (by conv => lhs; whnf)) ?_
  refine RL.val rfl (ex_move (by conv => lhs; whnf)) ?_
  refine RL.val rfl (ex_move (by conv => lhs; whnf)) ?_
  refine RL.call rfl (ex_call2 rfl (by conv => lhs; whnf) (by conv => lhs; whnf) Ybaf.fun25) (valueIndex h) ?_
  rintro v w2 ⟨rfl, rfl⟩
  refine RL.call rfl (ex_call2 rfl (by conv => lhs; whnf) (by conv => lhs; whnf) Ybaf.fun29) (nullAt h hok hr) ?_
  rintro v w2 ⟨rfl, rfl⟩
  refine RL.val rfl (ex_assign (by conv => lhs; whnf)) ?_
  refine RL.nil ?_
  refine WP.ret ?_
  repeat (first | refine thenQ_ret ?_ | refine blockQ_ret ?_)
  exact bodyQ_tmp rfl ⟨rfl, rfl⟩
def hold (x : Win) (t : Tab) (r : Nat) : Int := if nullB t.nulls r then 0 else cntW x (since x (valI t r))
theorem val_get {t : Tab} {r : Nat} (hr : r < t.vals.length) : t.vals[r]? = some (valI t r) := by
  rw [List.getElem?_eq_getElem hr, valI, List.getD_eq_getElem?_getD, List.getElem?_eq_getElem hr]; rfl
theorem val_lo {t : Tab} (hok : t.Ok) {r : Nat} (hr : r < t.vals.length) : -128 ≤ valI t r ∧ valI t r ≤ 127 := hok.v1 _ (List.mem_of_getElem? (val_get hr))
set_option maxRecDepth 100000 in
theorem holding {w : World} {B bc r : Nat} {t : Tab} {x : Win} (h : ColAt w B bc t) (hok : t.Ok) (hx : x.Ok) (hr : r < t.vals.length) : Calls Ybaf.prog 14 #[.agg (winRow x), .pointer (some ⟨bc, 0, none⟩), .int .i64 (r : Nat)] w fun e w' => ∃ v, e = .returned v ∧ (v = .int .i64 (hold x t r) ∧ Fr (fun _ => False) w w') := by
  have hfr0 : Fr (fun _ => False) w w := Fr.refl w
  have hvb := val_lo hok hr
  refine calls_of Ybaf.func14 rfl rfl ?_
  refine WP.seq ?_
  have FRsz := Fr.size hfr0
  refine WP.region ?_
  refine RL.val rfl (ex_box (by conv => lhs; whnf) (by first | (conv => lhs; simp only [sz_al, sz_sr, sz_dn]) | rfl)) ?_
  refine RL.val rfl (ex_assign (by conv => lhs; whnf)) ?_
  refine RL.nil ?_
  refine WP.seq ?_
  refine WP.seq ?_
  refine WP.region ?_
  refine RL.val rfl (ex_move (by conv => lhs; whnf)) ?_
  refine RL.val rfl (ex_move (by conv => lhs; whnf)) ?_
  refine RL.call rfl (ex_call2 rfl (by conv => lhs; whnf) (by conv => lhs; whnf) Ybaf.fun22) (isNull (h.keep (Fr.up (Fr.alloc hfr0 _))) hok hr) ?_
  rintro v w2 ⟨rfl, rfl⟩
  refine RL.nil ?_
  refine WP.cond _ (by conv => lhs; whnf) (fun hb => ?_) (fun hb => ?_)
  · refine WP.seq ?_
    refine WP.region ?_
    refine RL.val rfl (ex_assign (by conv => lhs; whnf)) ?_
    refine RL.nil ?_
    refine WP.ret ?_
    repeat (first | refine thenQ_ret ?_ | refine blockQ_ret ?_)
    exact bodyQ_tmp rfl ⟨by rw [hold, hb]; rfl, (Fr.alloc hfr0 _)⟩
  · refine WP.skip ?_
    have h2 : ColAt (w.alloc (.cells (Value.agg (winRow x)).cells 32)) B bc t := h.keep (Fr.up (Fr.alloc hfr0 _))
    obtain ⟨hbc, bv, nv, cv, hc, hbv, hcv, hvals, _⟩ := h2.ex
    refine WP.seq ?_
    refine WP.draw [] (by kernel_rfl) ?_
    refine AE.take 0 rfl (by kernel_rfl) rfl (fun w' hw => ex_loadW (by conv => lhs; whnf) (hw.keep (an' (by first | (simp only [sz_al, sz_sr, sz_dn]; done) | rfl | omega | (simp only [sz_al, sz_sr, sz_dn]; omega)))) Ybaf.ag32 (by rfl)) (Ext.drew (Ext.refl _) 1) ?_
    refine AE.take 1 rfl (by kernel_rfl) rfl (fun w' hw => ex_loadW (by conv => lhs; whnf) (hw.keep (an' (by first | (simp only [sz_al, sz_sr, sz_dn]; done) | rfl | omega | (simp only [sz_al, sz_sr, sz_dn]; omega)))) Ybaf.ag32 (by rfl)) (Ext.drew (Ext.refl _) 1) ?_
    refine AE.take 2 rfl (by kernel_rfl) rfl (fun w' hw => ex_move (by conv => lhs; whnf)) (Ext.drew (Ext.refl _) 1) ?_
    refine AE.take 3 rfl (by kernel_rfl) rfl (fun w' hw => ex_nilCheck (by conv => lhs; whnf)) (Ext.drew (Ext.refl _) 1) ?_
    refine AE.take 4 rfl (by kernel_rfl) rfl (fun w' hw => ex_fieldAddr (by conv => lhs; whnf) Ybaf.fo64_2) (Ext.drew (Ext.refl _) 1) ?_
    refine AE.take 5 rfl (by kernel_rfl) rfl (fun w' hw => ex_loadB (by conv => lhs; whnf) Ybaf.sc61 (hw.keep hc) (by conv => lhs; whnf)) (Ext.drew (Ext.refl _) 1) ?_
    refine AE.take 6 rfl (by kernel_rfl) rfl (fun w' hw => ex_typeAssert (by conv => lhs; whnf) Ybaf.pl59) (Ext.drew (Ext.refl _) 1) ?_
    refine AE.take 7 rfl (by kernel_rfl) rfl (fun w' hw => ex_move (by conv => lhs; whnf)) (Ext.drew (Ext.refl _) 1) ?_
    refine AE.take 8 rfl (by kernel_rfl) rfl (fun w' hw => ex_move (by conv => lhs; whnf)) (Ext.drew (Ext.refl _) 1) ?_
    refine AE.call 9 rfl (by kernel_rfl) rfl (ex_call2 rfl (by conv => lhs; whnf) (by conv => lhs; whnf) Ybaf.fun25) (valueIndex (h2.keep (Fr.up (Fr.drew (Fr.refl _) 1)))) ?_
    rintro v w2 ⟨rfl, rfl⟩
    refine ⟨fun _ => (Ext.drew (Ext.refl _) 1), ?_⟩
    refine AE.take 10 rfl (by kernel_rfl) rfl (fun w' hw => ex_ix1 (by conv => lhs; whnf) (by conv => lhs; whnf) Ybaf.sl59 Ybaf.sz2 rfl (by omega)) (Ext.drew (Ext.refl _) 1) ?_
    refine AE.take 11 rfl (by kernel_rfl) rfl (fun w' hw => ex_load (by conv => lhs; whnf) Ybaf.sc2 (Ext.cell hw (cellOf hcv (hvals r _ (val_get hr))))) (Ext.drew (Ext.refl _) 1) ?_
    refine AE.call 12 rfl (by kernel_rfl) rfl (ex_call2 rfl (by rfl) (by conv => lhs; whnf) Ybaf.fun24) (sinceStart hx (t := valI t r) (by omega) (by omega)) ?_
    rintro v w3 ⟨rfl, hf3⟩
    refine ⟨fun _ => Ext.trans (Ext.drew (Ext.refl _) 1) (Ext.of_fr hf3), ?_⟩
    refine AE.call 13 rfl (by kernel_rfl) rfl (ex_call2 rfl (by rfl) (by conv => lhs; whnf) Ybaf.fun23) (count hx (since_lo hx _) (by have := since_hi hx (valI t r); have := hx.e8; omega)) ?_
    rintro v w4 ⟨rfl, hf4⟩
    refine ⟨fun _ => Ext.trans (Ext.trans (Ext.drew (Ext.refl _) 1) (Ext.of_fr hf3)) (Ext.of_fr hf4), ?_⟩
    refine AE.take 14 rfl (by kernel_rfl) rfl (fun w' hw => ex_assign (by conv => lhs; whnf)) (Ext.trans (Ext.trans (Ext.drew (Ext.refl _) 1) (Ext.of_fr hf3)) (Ext.of_fr hf4)) ?_
    refine AE.nil (by kernel_rfl) ?_
    refine WP.ret ?_
    repeat (first | refine thenQ_ret ?_ | refine blockQ_ret ?_)
    exact bodyQ_tmp rfl ⟨by rw [hold, hb]; rfl, (Fr.trans (Fr.trans (Fr.drew (Fr.alloc hfr0 _) 1) hf3 (fun _ _ h => h)) hf4 (fun _ _ h => h))⟩
set_option maxRecDepth 100000 in
theorem column {w : World} {B bt bc : Nat} {t : Tab} (h : TabAt w B bt bc t) : Calls Ybaf.prog 12 #[.pointer (some ⟨bt, 0, none⟩), .string TIME] w fun e w' => ∃ v, e = .returned v ∧ (v = .pointer (some ⟨bc, 0, none⟩) ∧ w' = w) := by
  have hrow := h.row
  obtain ⟨hbc, bv, nv, cv, hc, _⟩ := h.col.ex
  refine calls_of Ybaf.func12 rfl rfl ?_
  refine WP.seq ?_
  have LT0 := lt_of hrow
  have LT6 := lt_of hc
  refine WP.region ?_
  refine RL.val rfl (ex_assign (by conv => lhs; whnf)) ?_
  refine RL.nil ?_
  refine WP.seq ?_
  refine WP.seq ?_
  refine WP.region ?_
  refine RL.val rfl (ex_move (by conv => lhs; whnf)) ?_
  refine RL.val rfl (ex_nilCheck (by conv => lhs; whnf)) ?_
  refine RL.val rfl (ex_fieldAddr (by conv => lhs; whnf) Ybaf.fo51_0) ?_
  refine RL.val rfl (ex_loadB (by conv => lhs; whnf) Ybaf.sc49 hrow (by conv => lhs; whnf)) ?_
  refine RL.val rfl (ex_len (by conv => lhs; whnf) Ybaf.sl49) ?_
  refine RL.val rfl (ex_move (by conv => lhs; whnf)) ?_
  refine RL.nil ?_
  refine WP.block ?_
  refine WP.loopk (fun n F wr => n = 1 ∧ Has F [(0, .pointer (some ⟨bt, 0, none⟩)), (1, .string TIME), (11, .int .i64 ((1 : Nat) : Int)), (12, .int .i64 ((0 : Nat) : Int))] ∧ wr = w) 1 ⟨rfl, ⟨rfl, rfl, rfl, rfl, trivial⟩, rfl⟩ ?_
  rintro n F wr ⟨rfl, hF, rfl⟩ K hK
  obtain ⟨G, rfl⟩ := hF.get
  clear hF
  refine WP.seq ?_
  have LT0 := lt_of hrow
  have LT6 := lt_of hc
  refine WP.region ?_
  refine RL.val rfl (ex_lss (by conv => lhs; whnf) (by conv => lhs; whnf)) ?_
  refine RL.nil ?_
  refine WP.seq ?_
  refine WP.cond_true rfl ?_
  refine WP.skip ?_
  refine WP.seq ?_
  refine WP.block ?_
  refine WP.seq ?_
  refine WP.region ?_
  refine RL.val rfl (ex_move (by conv => lhs; whnf)) ?_
  refine RL.val rfl (ex_assign (by conv => lhs; whnf)) ?_
  refine RL.nil ?_
  refine WP.seq ?_
  refine WP.region ?_
  refine RL.val rfl (ex_move (by conv => lhs; whnf)) ?_
  refine RL.val rfl (ex_nilCheck (by conv => lhs; whnf)) ?_
  refine RL.val rfl (ex_fieldAddr (by conv => lhs; whnf) Ybaf.fo51_0) ?_
  refine RL.val rfl (ex_loadB (by conv => lhs; whnf) Ybaf.sc49 hrow (by conv => lhs; whnf)) ?_
  refine RL.val rfl (ex_move (by conv => lhs; whnf)) ?_
  refine RL.val rfl (ex_indexAddr (i := ((0 : Nat) : Int)) (m := 0) (by conv => lhs; whnf) (by conv => lhs; whnf) Ybaf.sl49 Ybaf.sz64 rfl (by omega)) ?_
  refine RL.val rfl (ex_assign (by conv => lhs; whnf)) ?_
  refine RL.nil ?_
  refine WP.seq ?_
  refine WP.region ?_
  refine RL.val rfl (ex_move (by conv => lhs; whnf)) ?_
  refine RL.val rfl (ex_nilCheck (by conv => lhs; whnf)) ?_
  refine RL.val rfl (ex_fieldAddr (by conv => lhs; whnf) Ybaf.fo64_0) ?_
  refine RL.val rfl (ex_loadB (by conv => lhs; whnf) Ybaf.sc9 hc (by conv => lhs; whnf)) ?_
  refine RL.val rfl (ex_move (by conv => lhs; whnf)) ?_
  refine RL.val rfl (ex_eql_str (by conv => lhs; whnf) (by conv => lhs; whnf)) ?_
  refine RL.nil ?_
  refine WP.cond_true (congrArg Value.bool (decide_eq_true rfl)) ?_
  refine WP.seq ?_
  refine WP.region ?_
  refine RL.val rfl (ex_move (by conv => lhs; whnf)) ?_
  refine RL.val rfl (ex_assign (by conv => lhs; whnf)) ?_
  refine RL.nil ?_
  refine WP.ret ?_
  repeat (first | refine thenQ_ret ?_ | refine blockQ_ret ?_)
  exact bodyQ_tmp rfl ⟨rfl, rfl⟩
end Go.Proofs.YbulknocFmt
