/- The iterator over placements. -/
import Derived.Test.YbulknocFmtPiece
namespace Go.Proofs.YbulknocFmt
open Go Go.Eng Go.RowKit
set_option linter.unusedSimpArgs false
set_option linter.unusedVariables false

def plRow (x : Win) (t : Tab) (r : Nat) : List (Nat × Int) := (List.range (hold x t r).toNat).map fun i => (r, valI t r - (since x (valI t r) + (i : Nat) * x.e))
def plOf (x : Win) (t : Tab) (R : List Nat) : List (Nat × Int) := R.flatMap (plRow x t)
def offP (x : Win) (t : Tab) (R : List Nat) (j : Nat) : Nat := (plOf x t (R.take j)).length
theorem plRow_len (x : Win) (t : Tab) (r : Nat) : (plRow x t r).length = (hold x t r).toNat := by simp [plRow]
theorem plOf_split {x : Win} {t : Tab} {R : List Nat} {j r : Nat} (h : R[j]? = some r) : plOf x t R = plOf x t (R.take j) ++ plRow x t r ++ plOf x t (R.drop (j + 1)) := by
  have hj : j < R.length := (List.getElem?_eq_some_iff.1 h).1
  have e : R = R.take j ++ r :: R.drop (j + 1) := by
    have h1 := List.drop_eq_getElem_cons hj
    have h2 : R[j] = r := (List.getElem?_eq_some_iff.1 h).2
    rw [h2] at h1
    rw [← h1, List.take_append_drop]
  unfold plOf
  conv => lhs; rw [e]
  rw [List.flatMap_append, List.flatMap_cons, List.append_assoc]
theorem offP_succ {x : Win} {t : Tab} {R : List Nat} {j r : Nat} (h : R[j]? = some r) : offP x t R (j + 1) = offP x t R j + (hold x t r).toNat := by
  have hj : j < R.length := (List.getElem?_eq_some_iff.1 h).1
  unfold offP plOf
  rw [List.take_succ_eq_append_getElem hj, List.flatMap_append, List.length_append]
  have h2 : R[j] = r := (List.getElem?_eq_some_iff.1 h).2
  rw [h2]
  simp [plRow_len]
theorem plOf_get {x : Win} {t : Tab} {R : List Nat} {j r i : Nat} (h : R[j]? = some r) (hi : i < (hold x t r).toNat) : (plOf x t R)[offP x t R j + i]? = some (r, valI t r - (since x (valI t r) + (i : Nat) * x.e)) := by
  rw [plOf_split h, List.append_assoc, List.getElem?_append_right (by unfold offP; omega), show offP x t R j + i - (plOf x t (R.take j)).length = i by unfold offP; omega,
    List.getElem?_append_left (by rw [plRow_len]; exact hi)]
  simp [plRow, hi]
theorem offP_zero (x : Win) (t : Tab) (R : List Nat) : offP x t R 0 = 0 := by simp [offP, plOf]
theorem offP_end (x : Win) (t : Tab) (R : List Nat) : offP x t R R.length = (plOf x t R).length := by simp [offP]
theorem offP_lt {x : Win} {t : Tab} {R : List Nat} {j r i : Nat} (h : R[j]? = some r) (hi : i < (hold x t r).toNat) : offP x t R j + i < (plOf x t R).length := (List.getElem?_eq_some_iff.1 (plOf_get h hi)).1
theorem hold_lo {x : Win} (hx : x.Ok) {t : Tab} {r : Nat} : 0 ≤ hold x t r ∧ hold x t r ≤ 16 := by
  obtain ⟨e1, e8, p1, p16, o1, o2⟩ := hx
  unfold hold
  split
  · omega
  · unfold cntW
    have hs := since_lo ⟨e1, e8, p1, p16, o1, o2⟩ (valI t r)
    split
    · omega
    · have hq1 : 0 ≤ (x.p - since x (valI t r) - 1).tdiv x.e := Int.tdiv_nonneg (by omega) (by omega)
      have hq2 : (x.p - since x (valI t r) - 1).tdiv x.e ≤ x.p - since x (valI t r) - 1 := by
        rw [Int.tdiv_eq_ediv_of_nonneg (by omega)]
        exact Int.ediv_le_self _ (by omega)
      omega

structure MfP (B : Nat) (T : List Tab) (p : Pc) (bp bq : Nat) (rv tv : Value) (t : Tab) (bc : Nat) (x : Win) (b1 b2 b3 : Nat) (w : World) : Prop where
  rows : MfR B T p bp bq rv tv w
  s : w.heap[b1]? = some (.cells #[.func (.func 21) #[] #[.pointer (some ⟨bp, 0, none⟩), .pointer (some ⟨bq, 0, none⟩)]] 69 (0, 0))
  c : w.heap[b2]? = some (.cells #[.pointer (some ⟨bc, 0, none⟩)] 66 (0, 0))
  x : w.heap[b3]? = some (.cells (winRow x) 32 (0, 0))
  col : ColAt w B bc t
def encP (x : Win) (L : List (Nat × Int)) (k : Nat) : Array Value := #[.int .i64 (((L.getD k (0, 0)).1 : Nat) : Int), .agg #[.int .i64 (L.getD k (0, 0)).2, .int .i64 ((L.getD k (0, 0)).2 + x.p)]]
theorem Ybaf.pl59' : plainT Ybaf.prog 59 = true := by kernel_rfl

theorem satAdd' {w : World} {a b c : Int} (hc : a + b = c) (ha : -100000 ≤ a) (ha2 : a ≤ 100000) (hb : -100000 ≤ b) (hb2 : b ≤ 100000) : Calls Ybaf.prog 32 #[.int .i64 a, .int .i64 b] w fun e w' => ∃ v, e = .returned v ∧ (v = .int .i64 c ∧ w' = w) := by
  subst hc
  exact satAdd ha ha2 hb hb2

set_option maxRecDepth 100000 in
theorem iterPl {B : Nat} {T : List Tab} {t : Tab} {p : Pc} {bp bq bc b1 b2 b3 : Nat} {rv tv : Value} {x : Win} (hti : T[p.ti]? = some t) (hok : t.Ok) (hx : x.Ok) (hlen : (rowsOf T p).length ≤ 100000) (hrs : ∀ r, r ∈ rowsOf T p → r < t.vals.length) :
    Iter kap Ybaf.prog 31 #[.pointer (some ⟨b1, 0, none⟩), .pointer (some ⟨b2, 0, none⟩), .pointer (some ⟨b3, 0, none⟩)] (plOf x t (rowsOf T p)).length (encP x (plOf x t (rowsOf T p))) (MfP B T p bp bq rv tv t bc x b1 b2 b3) := by
  intro l W J Jx hM hJ hJx hY h0
  obtain ⟨R, hR⟩ : ∃ R, R = rowsOf T p := ⟨_, rfl⟩
  rw [← hR] at hlen hrs hY ⊢
  have fin : ∀ (wr : World) (Ds : List Nat), Marks Ds wr → (∀ D, D ∈ Ds → W.heap.size ≤ D) → J (plOf x t R).length wr ∨ Jx wr → ∀ F, bodyD Ybaf.prog Ybaf.f31 (fun v W' => J (plOf x t R).length W' ∨ Jx W') .normal (Ds.map Eng.mark) F wr := fun wr Ds hm hd h F =>
    ⟨Ds, rfl, hm, fun wF hF => ⟨.tuple #[], fun ds a ha => results_none rfl _ _ _, by
      have hit : ItS W.heap.size wr wF := hF.mono (fun k _ hk => ⟨hd k hk, _, hm.at_ k hk, rfl⟩)
      exact h.imp (fun h => hJ _ _ _ h hit) (fun h => hJx _ _ h hit)⟩⟩
  refine (callsD_of (R := fun v W' => J (plOf x t R).length W' ∨ Jx W') Ybaf.func31 rfl rfl ?_).mono (fun e w' h => h)
  have hm := hM 0 W h0
  have hb1 := hm.s
  refine WD.seq ?_
  have LT1 := lt_of hb1
  refine WD.region rfl ?_
  refine RL.val rfl (ex_box (by conv => lhs; whnf) (by first | (conv => lhs; simp only [sz_al, sz_sr, sz_dn]) | rfl)) ?_
  refine RL.nil ?_
  refine WD.seq ?_
  refine WD.region rfl ?_
  refine RL.val rfl (ex_loadB (by conv => lhs; whnf) Ybaf.sc69 (al hb1) (by conv => lhs; whnf)) ?_
  refine RL.nil ?_
  refine WD.block ?_
  have hsz0 : (W.alloc (.cells (Value.func (.yield l) #[] #[]).cells 97)).heap.size = W.heap.size + 1 := by simp
  refine WD.range kap_nc (len := R.length) (enc := fun i => #[.int .i64 ((R.getD i 0 : Nat) : Int)]) (Mf := MfR B T p bp bq rv tv) rfl Ybaf.fun21 (by have := iterRows (B := B) (bp := bp) (bq := bq) (rv := rv) (tv := tv) hti (by rw [← hR]; exact hlen); rw [← hR] at this; exact this)
    (fun _ _ => rfl) (fun _ _ => rfl) (fun j W' => J (offP x t R j) W' ∧ W'.heap[W.heap.size]? = some (.cells #[.func (.yield l) #[] #[]] 97 (0, 0))) (fun c W' => c = .ret ∧ Jx W')
    (fun i F' W' => Has F' [(2, .pointer (some ⟨b2, 0, none⟩)), (3, .pointer (some ⟨b3, 0, none⟩)), (4, .pointer (some ⟨W.heap.size, 0, none⟩)), (5, .int .i64 ((R.getD i 0 : Nat) : Int))] ∧ J (offP x t R i) W' ∧ W'.heap[W.heap.size]? = some (.cells #[.func (.yield l) #[] #[]] 97 (0, 0)))
    (fun i W' h => (hM _ _ h.1).rows) (fun i W1 W2 h hs => ⟨hJ _ _ _ h.1 (hs.mono (by omega)), hs.cells h.2⟩) (fun c W1 W2 h hs => ⟨h.1, hJx _ _ h.2 (hs.mono (by omega))⟩) (fun i F' W1 W2 h hs => ⟨h.1, hJ _ _ _ h.2.1 (hs.mono (by omega)), hs.cells h.2.2⟩)
    ⟨by rw [offP_zero]; exact hJ _ _ _ h0 (ItS.alloc _), an' rfl⟩ ?_ ?_ ?_ ?_
  · intro l2 i W' hi hl2 hI
    refine WD.region rfl ?_
    refine RL.val rfl (ex_assign (by conv => lhs; whnf)) ?_
    refine RL.nil ?_
    exact ⟨KO.refl _ _ _, ⟨rfl, rfl, rfl, rfl, trivial⟩, hI⟩
  · rintro l2 i F' W' hi hl2 ⟨rr, hrr⟩ ⟨hF, hj, hb4⟩ dd
    obtain ⟨r, hr⟩ : ∃ r, R[i]? = some r := ⟨_, List.getElem?_eq_getElem hi⟩
    have hg : R.getD i 0 = r := by rw [List.getD_eq_getElem?_getD, hr]; rfl
    rw [hg] at hF
    have hrl := hrs r (List.mem_of_getElem? hr)
    have hvb := val_lo hok hrl
    have hm2 := hM _ _ hj
    have hb2 := hm2.c
    have hb3 := hm2.x
    obtain ⟨hbc, bv, nv, cv, hc, hbv, hcv, hvals, _⟩ := hm2.col.ex
    obtain ⟨e1, e8, p1, p16, o1, o2⟩ := hx
    have hx : x.Ok := ⟨e1, e8, p1, p16, o1, o2⟩
    have hs0 := since_lo hx (valI t r)
    have hs1 := since_hi hx (valI t r)
    obtain ⟨H, hH⟩ : ∃ H : Nat, H = (hold x t r).toNat := ⟨_, rfl⟩
    have hHb := hold_lo (t := t) (r := r) hx
    have hH' : hold x t r = (H : Int) := by omega
    obtain ⟨G, rfl⟩ := hF.get
    clear hF
    have hfrW : Fr (fun _ => False) W' W' := Fr.refl W'
    refine WD.block ?_
    refine WD.seq ?_
    have LT2 := lt_of hb2
    have LT3 := lt_of hb3
    have LT4 := lt_of hb4
    have LT901 := lt_of hc
    have FRsz := Fr.size hfrW
    refine WD.draw [] rfl (by kernel_rfl) ?_
    refine AE.take 0 rfl (by kernel_rfl) rfl (fun w' hw => ex_loadB (by conv => lhs; whnf) Ybaf.sc66 (hw.keep hb2) (by conv => lhs; whnf)) (Ext.drew (Ext.refl _) 1) ?_
    refine AE.take 1 rfl (by kernel_rfl) rfl (fun w' hw => ex_nilCheck (by conv => lhs; whnf)) (Ext.drew (Ext.refl _) 1) ?_
    refine AE.take 2 rfl (by kernel_rfl) rfl (fun w' hw => ex_fieldAddr (by conv => lhs; whnf) Ybaf.fo64_2) (Ext.drew (Ext.refl _) 1) ?_
    refine AE.take 3 rfl (by kernel_rfl) rfl (fun w' hw => ex_loadB (by conv => lhs; whnf) Ybaf.sc61 (hw.keep hc) (by conv => lhs; whnf)) (Ext.drew (Ext.refl _) 1) ?_
    refine AE.take 4 rfl (by kernel_rfl) rfl (fun w' hw => ex_typeAssert (by conv => lhs; whnf) Ybaf.pl59) (Ext.drew (Ext.refl _) 1) ?_
    refine AE.take 5 rfl (by kernel_rfl) rfl (fun w' hw => ex_loadB (by conv => lhs; whnf) Ybaf.sc66 (hw.keep hb2) (by conv => lhs; whnf)) (Ext.drew (Ext.refl _) 1) ?_
    refine AE.take 6 rfl (by kernel_rfl) rfl (fun w' hw => ex_move (by conv => lhs; whnf)) (Ext.drew (Ext.refl _) 1) ?_
    refine AE.call 7 rfl (by kernel_rfl) rfl (ex_call2 rfl (by conv => lhs; whnf) (by conv => lhs; whnf) Ybaf.fun25) (valueIndex (hm2.col.keep (Fr.up (Fr.drew (Fr.refl _) 1)))) ?_
    rintro v w2 ⟨rfl, rfl⟩
    refine ⟨fun _ => (Ext.drew (Ext.refl _) 1), ?_⟩
    refine AE.take 8 rfl (by kernel_rfl) rfl (fun w' hw => ex_ix1 (by conv => lhs; whnf) (by conv => lhs; whnf) Ybaf.sl59 Ybaf.sz2 rfl (by omega)) (Ext.drew (Ext.refl _) 1) ?_
    refine AE.take 9 rfl (by kernel_rfl) rfl (fun w' hw => ex_load (by conv => lhs; whnf) Ybaf.sc2 (Ext.cell hw (cellOf hcv (hvals r _ (val_get hrl))))) (Ext.drew (Ext.refl _) 1) ?_
    refine AE.take 10 rfl (by kernel_rfl) rfl (fun w' hw => ex_assign (by conv => lhs; whnf)) (Ext.drew (Ext.refl _) 1) ?_
    refine AE.nil (by kernel_rfl) ?_
    refine WD.seq ?_
    refine WD.region rfl ?_
    refine RL.val rfl (ex_loadW (by conv => lhs; whnf) hb3 Ybaf.ag32 (by rfl)) ?_
    refine RL.val rfl (ex_move (by conv => lhs; whnf)) ?_
    refine RL.call rfl (ex_call2 rfl (by rfl) (by conv => lhs; whnf) Ybaf.fun24) (sinceStart hx (t := valI t r) (by omega) (by omega)) ?_
    rintro v w3 ⟨rfl, hf3⟩
    refine RL.val rfl (ex_assign (by conv => lhs; whnf)) ?_
    refine RL.nil ?_
    refine WD.seq ?_
    refine WD.region rfl ?_
    refine RL.val rfl (ex_loadW (by conv => lhs; whnf) (hf3.keep hb3 id) Ybaf.ag32 (by rfl)) ?_
    refine RL.val rfl (ex_loadB (by conv => lhs; whnf) Ybaf.sc66 (hf3.keep hb2 id) (by conv => lhs; whnf)) ?_
    refine RL.val rfl (ex_move (by conv => lhs; whnf)) ?_
    refine RL.call rfl (ex_call3 rfl (by rfl) (by conv => lhs; whnf) (by conv => lhs; whnf) Ybaf.fun14) (by have := holding (w := w3) (hm2.col.keep (Fr.up (Fr.trans (Fr.drew hfrW 1) hf3 (fun _ _ h => h)))) hok hx hrl; rw [hH'] at this; exact this) ?_
    rintro v w4 ⟨rfl, hf4⟩
    refine RL.val rfl (ex_move (by conv => lhs; whnf)) ?_
    refine RL.nil ?_
    refine WD.block ?_
    have hfrA : Fr (fun _ => False) W' w4 := (Fr.trans (Fr.trans (Fr.drew hfrW 1) hf3 (fun _ _ h => h)) hf4 (fun _ _ h => h))
    refine WD.loopk (fun m ds F wr => ∃ q : Nat, m = H - q ∧ q ≤ H ∧ ds = dd ∧ Has F [(3, .pointer (some ⟨b3, 0, none⟩)), (4, .pointer (some ⟨W.heap.size, 0, none⟩)), (5, .int .i64 (r : Nat)), (6, .int .i64 (valI t r)), (7, .int .i64 (since x (valI t r))), (29, .int .i64 (H : Nat)), (30, .int .i64 (q : Nat))] ∧
      J (offP x t R i + q) wr ∧ wr.heap[W.heap.size]? = some (.cells #[.func (.yield l) #[] #[]] 97 (0, 0)) ∧ KO kap (W.alloc (.cells (Value.func (.yield l) #[] #[]).cells 97)).heap.size W' wr) H
      ⟨0, rfl, Nat.zero_le _, rfl, ⟨rfl, rfl, rfl, rfl, rfl, rfl, rfl, trivial⟩, hJ _ _ _ hj (ItS.of_pure hfrA), hfrA.keep hb4 id, KO.of_fr hfrA (fun _ _ _ _ _ => id)⟩ ?_
    rintro m ds F wr ⟨q, rfl, hq, rfl, hF, hjq, hb4q, hko⟩ K hK
    obtain ⟨G, rfl⟩ := hF.get
    clear hF
    have hmq := hM _ _ hjq
    have hb3q := hmq.x
    refine WD.seq ?_
    have LT3 := lt_of hb3q
    have LT4 := lt_of hb4q
    refine WD.region rfl ?_
    refine RL.val rfl (ex_lss (by conv => lhs; whnf) (by conv => lhs; whnf)) ?_
    refine RL.nil ?_
    refine WD.seq ?_
    refine WD.cond _ (by conv => lhs; whnf) (fun hlt1 => ?_) (fun hlt1 => ?_)
    rotate_left
    · have hqk : q = H := by have := of_decide_eq_false hlt1; omega
      refine WD.exit ?_
      repeat (first | refine thenD_exit ?_ | refine blockD_hit ?_ | refine blockD_miss rfl ?_)
      subst hqk
      refine ⟨hko, ?_, hb4q⟩
      rw [offP_succ hr, ← hH]
      exact hjq
    have hqk : q < H := by have := of_decide_eq_true hlt1; omega
    have hqe0 : 0 ≤ (q : Int) * x.e := Int.mul_nonneg (by omega) (by omega)
    have hqe1 : (q : Int) * x.e ≤ 16 * 8 := Int.mul_le_mul (by omega) e8 (by omega) (by omega)
    refine WD.skip ?_
    refine WD.seq ?_
    refine WD.block ?_
    refine WD.seq ?_
    refine WD.region rfl ?_
    refine RL.val rfl (ex_move (by conv => lhs; whnf)) ?_
    refine RL.val rfl (ex_assign (by conv => lhs; whnf)) ?_
    refine RL.nil ?_
    refine WD.seq ?_
    refine WD.region rfl ?_
    refine RL.val rfl (ex_move (by conv => lhs; whnf)) ?_
    refine RL.val rfl (ex_move (by conv => lhs; whnf)) ?_
    refine RL.val rfl (ex_fieldAddr (by conv => lhs; whnf) Ybaf.fo32_0) ?_
    refine RL.val rfl (ex_loadB (by conv => lhs; whnf) Ybaf.sc2 hb3q (by conv => lhs; whnf)) ?_
    refine RL.val rfl (ex_mul (by conv => lhs; whnf) (by conv => lhs; whnf) (wrap_i64 (by omega) (by omega))) ?_
    refine RL.val rfl (ex_add (by conv => lhs; whnf) (by conv => lhs; whnf) (wrap_i64 (by omega) (by omega))) ?_
    refine RL.val rfl (ex_assign (by conv => lhs; whnf)) ?_
    refine RL.nil ?_
    obtain ⟨st, hst⟩ : ∃ st, st = valI t r - (since x (valI t r) + (q : Int) * x.e) := ⟨_, rfl⟩
    have hs1' : valI t r + -(since x (valI t r) + (q : Int) * x.e) = st := by omega
    have hs2' : valI t r + (x.p - (since x (valI t r) + (q : Int) * x.e)) = st + x.p := by omega
    have hfrQ : Fr (fun _ => False) wr wr := Fr.refl wr
    refine WD.seqc (fun ds' F w5 => ds' = ds ∧ ∃ b10, Has F [(3, .pointer (some ⟨b3, 0, none⟩)), (4, .pointer (some ⟨W.heap.size, 0, none⟩)), (5, .int .i64 (r : Nat)), (6, .int .i64 (valI t r)), (7, .int .i64 (since x (valI t r))), (10, .pointer (some ⟨b10, 0, none⟩)), (29, .int .i64 (H : Nat)), (30, .int .i64 (q : Nat))] ∧
      w5.heap[b10]? = some (.cells #[.int .i64 st, .int .i64 (st + x.p)] 92 (0, 0)) ∧ Fr (fun _ => False) wr w5) ?_ ?_
    have LT3 := lt_of hb3q
    have LT4 := lt_of hb4q
    have FRsz := Fr.size hfrQ
    · refine WD.draw [12] rfl (by kernel_rfl) ?_
      refine AE.take 0 rfl (by kernel_rfl) rfl (fun w' hw => ex_move (by conv => lhs; whnf)) (Ext.drew (Ext.refl _) 1) ?_
      refine AE.take 1 rfl (by kernel_rfl) rfl (fun w' hw => ex_move (by conv => lhs; whnf)) (Ext.drew (Ext.refl _) 1) ?_
      refine AE.take 2 rfl (by kernel_rfl) rfl (fun w' hw => ex_neg (c := -(since x (valI t r) + (q : Int) * x.e)) (by conv => lhs; whnf) (by rw [IntKind.wrap_i64]; omega)) (Ext.drew (Ext.refl _) 1) ?_
      refine AE.take 4 rfl (by kernel_rfl) rfl (fun w' hw => ex_move (by conv => lhs; whnf)) (Ext.drew (Ext.refl _) 1) ?_
      refine AE.take 5 rfl (by kernel_rfl) rfl (fun w' hw => ex_fieldAddr (by conv => lhs; whnf) Ybaf.fo32_1) (Ext.drew (Ext.refl _) 1) ?_
      refine AE.take 6 rfl (by kernel_rfl) rfl (fun w' hw => ex_loadB (by conv => lhs; whnf) Ybaf.sc2 (hw.keep hb3q) (by conv => lhs; whnf)) (Ext.drew (Ext.refl _) 1) ?_
      refine AE.take 7 rfl (by kernel_rfl) rfl (fun w' hw => ex_move (by conv => lhs; whnf)) (Ext.drew (Ext.refl _) 1) ?_
      refine AE.take 8 rfl (by kernel_rfl) rfl (fun w' hw => ex_sub (by conv => lhs; whnf) (by conv => lhs; whnf) (wrap_i64 (by omega) (by omega))) (Ext.drew (Ext.refl _) 1) ?_
      refine AE.fork 3 11 (by kernel_rfl) ?_ ?_
      · refine AS.call rfl (by kernel_rfl) rfl (ex_call2 rfl (by conv => lhs; whnf) (by conv => lhs; whnf) Ybaf.fun32) (satAdd' hs1' (by omega) (by omega) (by omega) (by omega)) ?_
        rintro v w5 ⟨rfl, rfl⟩
        refine ⟨fun _ => (Ext.drew (Ext.refl _) 1), ?_⟩
        refine AE.fork 9 11 (by kernel_rfl) ?_ ?_
        · refine AS.call rfl (by kernel_rfl) rfl (ex_call2 rfl (by conv => lhs; whnf) (by conv => lhs; whnf) Ybaf.fun32) (satAdd' hs2' (by omega) (by omega) (by omega) (by omega)) ?_
          rintro v w5 ⟨rfl, rfl⟩
          refine ⟨fun _ => (Ext.drew (Ext.refl _) 1), ?_⟩
          refine AE.take 10 rfl (by kernel_rfl) rfl (fun w' hw => Ybaf.bl92_0_1 (by conv => lhs; whnf) rfl (by conv => lhs; whnf) rfl) (Ext.drew (Ext.refl _) 1) ?_
          refine AE.val 11 rfl (by kernel_rfl) rfl (ex_alloc Ybaf.zo92 (by first | (conv => lhs; simp only [sz_al, sz_sr, sz_dn]) | rfl)) (fun _ => (Ext.alloc (Ext.drew (Ext.refl _) 1) _)) ?_
          refine AE.unit 12 rfl (by kernel_rfl) (ex_storeW (by conv => lhs; whnf) (by conv => lhs; whnf) Ybaf.ag92 (an' (by first | (simp only [sz_al, sz_sr, sz_dn]; done) | rfl | omega | (simp only [sz_al, sz_sr, sz_dn]; omega))) (by rfl) (by rfl) (by rfl)) (fun h => absurd h (by decide)) ?_
          refine AE.nil (by kernel_rfl) ?_
          exact ⟨rfl, _, ⟨rfl, rfl, rfl, rfl, rfl, rfl, rfl, rfl, trivial⟩, (sr_eq (an' (by first | (simp only [sz_al, sz_sr, sz_dn]; done) | rfl | omega | (simp only [sz_al, sz_sr, sz_dn]; omega)))), (Fr.set (Fr.alloc (Fr.drew hfrQ 1) _) _ _ (fun hh => by first | exact rfl | exact .inl rfl | exact .inr (.inl rfl) | exact .inr (.inr rfl) | ((try simp only [sz_al, sz_sr, sz_dn] at hh); (try simp only [sz_al, sz_sr, sz_dn]); (first | omega | (dsimp only; omega) | exact .inl rfl | exact .inr (.inl rfl)))))⟩
        · refine AS.val rfl (by kernel_rfl) rfl (ex_alloc Ybaf.zo92 (by first | (conv => lhs; simp only [sz_al, sz_sr, sz_dn]) | rfl)) (fun _ => Ext.alloc (Ext.drew (Ext.refl _) 1) _) ?_
          refine AE.call 9 rfl (by kernel_rfl) rfl (ex_call2 rfl (by conv => lhs; whnf) (by conv => lhs; whnf) Ybaf.fun32) (satAdd' hs2' (by omega) (by omega) (by omega) (by omega)) ?_
          rintro v w5 ⟨rfl, rfl⟩
          refine ⟨fun _ => (Ext.alloc (Ext.drew (Ext.refl _) 1) _), ?_⟩
          refine AE.take 10 rfl (by kernel_rfl) rfl (fun w' hw => Ybaf.bl92_0_1 (by conv => lhs; whnf) rfl (by conv => lhs; whnf) rfl) (Ext.alloc (Ext.drew (Ext.refl _) 1) _) ?_
          refine AE.unit 12 rfl (by kernel_rfl) (ex_storeW (by conv => lhs; whnf) (by conv => lhs; whnf) Ybaf.ag92 (an' (by simp only [sz_al, sz_dn])) (by rfl) (by rfl) (by rfl)) (fun h => absurd h (by decide)) ?_
          refine AE.nil (by kernel_rfl) ?_
          exact ⟨rfl, _, ⟨rfl, rfl, rfl, rfl, rfl, rfl, rfl, rfl, trivial⟩, (sr_eq (an' (by simp only [sz_al, sz_dn]))), (Fr.set (Fr.alloc (Fr.drew hfrQ 1) _) _ _ (fun hh => by first | exact rfl | exact .inl rfl | exact .inr (.inl rfl) | exact .inr (.inr rfl) | ((try simp only [sz_al, sz_sr, sz_dn] at hh); (try simp only [sz_al, sz_sr, sz_dn]); (first | omega | (dsimp only; omega) | exact .inl rfl | exact .inr (.inl rfl)))))⟩
      · refine AS.val rfl (by kernel_rfl) rfl (ex_alloc Ybaf.zo92 (by first | (conv => lhs; simp only [sz_al, sz_sr, sz_dn]) | rfl)) (fun _ => Ext.alloc (Ext.drew (Ext.refl _) 1) _) ?_
        refine AE.call 3 rfl (by kernel_rfl) rfl (ex_call2 rfl (by conv => lhs; whnf) (by conv => lhs; whnf) Ybaf.fun32) (satAdd' hs1' (by omega) (by omega) (by omega) (by omega)) ?_
        rintro v w5 ⟨rfl, rfl⟩
        refine ⟨fun _ => (Ext.alloc (Ext.drew (Ext.refl _) 1) _), ?_⟩
        refine AE.call 9 rfl (by kernel_rfl) rfl (ex_call2 rfl (by conv => lhs; whnf) (by conv => lhs; whnf) Ybaf.fun32) (satAdd' hs2' (by omega) (by omega) (by omega) (by omega)) ?_
        rintro v w5 ⟨rfl, rfl⟩
        refine ⟨fun _ => (Ext.alloc (Ext.drew (Ext.refl _) 1) _), ?_⟩
        refine AE.take 10 rfl (by kernel_rfl) rfl (fun w' hw => Ybaf.bl92_0_1 (by conv => lhs; whnf) rfl (by conv => lhs; whnf) rfl) (Ext.alloc (Ext.drew (Ext.refl _) 1) _) ?_
        refine AE.unit 12 rfl (by kernel_rfl) (ex_storeW (by conv => lhs; whnf) (by conv => lhs; whnf) Ybaf.ag92 (an' (by simp only [sz_al, sz_dn])) (by rfl) (by rfl) (by rfl)) (fun h => absurd h (by decide)) ?_
        refine AE.nil (by kernel_rfl) ?_
        exact ⟨rfl, _, ⟨rfl, rfl, rfl, rfl, rfl, rfl, rfl, rfl, trivial⟩, (sr_eq (an' (by simp only [sz_al, sz_dn]))), (Fr.set (Fr.alloc (Fr.drew hfrQ 1) _) _ _ (fun hh => by first | exact rfl | exact .inl rfl | exact .inr (.inl rfl) | exact .inr (.inr rfl) | ((try simp only [sz_al, sz_sr, sz_dn] at hh); (try simp only [sz_al, sz_sr, sz_dn]); (first | omega | (dsimp only; omega) | exact .inl rfl | exact .inr (.inl rfl)))))⟩
    rintro ds' F w5 ⟨rfl, b10, hF, hb10, hf5⟩
    obtain ⟨G, rfl⟩ := hF.get
    clear hF
    have hj5 := hJ _ _ _ hjq (ItS.of_pure hf5)
    have hb45 := hf5.keep hb4q id
    refine WD.seq ?_
    refine WD.regionD ?_
    have LT4 := lt_of hb45
    refine RD.val rfl (ex_loadB (by conv => lhs; whnf) Ybaf.sc97 hb45 (by conv => lhs; whnf)) (fun _ h => by cases h) ?_
    refine RD.val rfl (ex_move (by conv => lhs; whnf)) (fun _ h => by cases h) ?_
    refine RD.val rfl (ex_loadW (by conv => lhs; whnf) hb10 Ybaf.ag92 (by rfl)) (fun _ h => by cases h) ?_
    have hqq : q < (hold x t r).toNat := by omega
    have hy := hY _ w5 (offP_lt hr hqq) hj5
    have he : encP x (plOf x t R) (offP x t R i + q) = #[.int .i64 (r : Nat), .agg #[.int .i64 st, .int .i64 (st + x.p)]] := by
      unfold encP
      rw [List.getD_eq_getElem?_getD, plOf_get hr hqq, hst]
      rfl
    rw [he] at hy
    refine RD.yield2 rfl (by conv => lhs; whnf) (by conv => lhs; whnf) (by conv => lhs; whnf) hy ?_
    rintro b w6 ⟨hko6, hb61, hb60⟩
    refine RD.val rfl (ex_not (by conv => lhs; whnf)) (fun _ h => by cases h) ?_
    refine RD.nil ?_
    have hko' : KO kap (W.alloc (.cells (Value.func (.yield l) #[] #[]).cells 97)).heap.size W' w6 := (hko.trans (KO.of_fr hf5 (fun _ _ _ _ _ => id))).trans (hko6.mono (by omega))
    have hb46 := hko6.same _ _ (Nat.le_refl _) hb45 rfl
    cases b with
    | true =>
      refine WD.cond_false rfl ?_
      refine WD.skip ?_
      refine WD.region rfl ?_
      refine RL.val rfl (ex_add (c := ((q + 1 : Nat) : Int)) (by conv => lhs; whnf) (by conv => lhs; whnf) (by rw [IntKind.wrap_i64]; omega)) ?_
      refine RL.val rfl (ex_move (by conv => lhs; whnf)) ?_
      refine RL.nil ?_
      exact hK (H - (q + 1)) _ _ _ (by omega) ⟨q + 1, rfl, by omega, rfl, ⟨rfl, rfl, rfl, rfl, rfl, rfl, rfl, trivial⟩, hb61 rfl, hb46, hko'⟩
    | false =>
      refine WD.cond_true rfl ?_
      refine WD.ret ?_
      repeat (first | refine thenD_ret ?_ | refine blockD_ret ?_)
      exact ⟨hko', rfl, hb60 rfl⟩
  · intro D W' hD hI hDb
    rw [offP_end] at hI
    exact fin W' [D] ⟨by simp, fun D' h => by rw [List.mem_singleton.1 h]; exact hDb⟩ (fun D' h => by rw [List.mem_singleton.1 h]; omega) (.inl hI.1) _
  · rintro D c W' hD ⟨rfl, hjx⟩ hDb
    refine WD.ret ?_
    repeat (first | refine thenD_ret ?_ | refine blockD_ret ?_)
    exact fin W' [D] ⟨by simp, fun D' h => by rw [List.mem_singleton.1 h]; exact hDb⟩ (fun D' h => by rw [List.mem_singleton.1 h]; omega) (.inr hjx) _
end Go.Proofs.YbulknocFmt
