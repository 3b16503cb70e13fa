/- The recency list as links by place; relinkRecent, unlinkRecent. -/
import Derived.Test.YbulknlkChunk
namespace Go.Proofs.Ybulknlk
open Go Go.Eng Go.RowKit
set_option linter.unusedSimpArgs false
set_option linter.unusedVariables false

abbrev chunkV (bM k p : Nat) : Value := .slice (some ⟨bM, 0 + p * 48, none⟩) (p * 48 + 48 - p * 48) (k * 48 - p * 48)
def up (f : Nat → Nat) (i v : Nat) : Nat → Nat := fun j => if j = i then v else f j
theorem up_eq (f : Nat → Nat) (i v : Nat) : up f i v i = v := by simp [up]
theorem up_ne (f : Nat → Nat) {i j : Nat} (v : Nat) (h : j ≠ i) : up f i v j = f j := by simp [up, h]
structure Perm (π : Nat → Nat) (k : Nat) : Prop where
  lt : ∀ i, i < k → π i < k
  inj : ∀ i j, i < k → j < k → π i = π j → i = j
structure Mem (w : World) (bM k : Nat) (π n o : Nat → Nat) : Prop where
  ex : ∃ c : Array Value, w.heap[bM]? = some (.cells c 5 (0, 0)) ∧ c.size = k * 48 ∧ ∀ i, i < k → At4 c (π i * 48 + 8) (n i) ∧ At4 c (π i * 48 + 12) (o i)
  bd : ∀ i, i < k → n i < 4294967296 ∧ o i < 4294967296
def Cls (w : World) (bC nw od : Nat) : Prop := w.heap[bC]? = some (.cells #[.int .i64 0, .int .u32 (nw : Nat), .int .u32 (od : Nat), .int .i64 0] 65 (0, 0))
def SB (bM bC : Nat) : Nat → Prop := fun b => b = bM ∨ b = bC
structure St (w : World) (bS bP bC bM k : Nat) (π n o : Nat → Nat) (nw od : Nat) : Prop where
  fx : Fixed w bS bP bC bM k
  mm : Mem w bM k π n o
  cl : Cls w bC nw od
  pm : Perm π k
  hk : k ≤ 300
  d1 : bS ≠ bM
  d2 : bP ≠ bM
  d3 : bC ≠ bM
  d4 : bS ≠ bC
  d5 : bP ≠ bC

section
variable {w w' : World} {bS bP bC bM k : Nat} {π n o : Nat → Nat} {nw od : Nat}

theorem Mem.keep {S : Nat → Prop} (h : Mem w bM k π n o) (hf : Fr S w w') (hn : ¬ S bM) : Mem w' bM k π n o :=
  ⟨let ⟨c, h1, h2⟩ := h.ex; ⟨c, hf.keep h1 hn, h2⟩, h.bd⟩
theorem St.keep {S : Nat → Prop} (h : St w bS bP bC bM k π n o nw od) (hf : Fr S w w') (h1 : ¬ S bS) (h2 : ¬ S bP) (h3 : ¬ S bC) (h4 : ¬ S bM) : St w' bS bP bC bM k π n o nw od :=
  ⟨h.fx.keep hf h1 h2, h.mm.keep hf h4, hf.keep h.cl h3, h.pm, h.hk, h.d1, h.d2, h.d3, h.d4, h.d5⟩
theorem St.pure (h : St w bS bP bC bM k π n o nw od) (hf : Fr (fun _ => False) w w') : St w' bS bP bC bM k π n o nw od := h.keep hf id id id id

theorem St.chunk (h : St w bS bP bC bM k π n o nw od) {i : Nat} (hi : i < k) :
    Calls Yba.prog 5 #[.pointer (some ⟨bS, 0, none⟩), .int .u32 ((2048 + π i : Nat) : Int)] w fun e w' => ∃ v, e = .returned v ∧ (v = chunkV bM k (π i) ∧ Fr (fun _ => False) w w') :=
  Ybulknlk.chunk h.fx (h.pm.lt i hi) (by have := h.hk; omega)
theorem St.read_n (h : St w bS bP bC bM k π n o nw od) {i : Nat} (hi : i < k) :
    Calls Yba.prog 8 #[chunkV bM k (π i), .int .i64 8] w fun e w' => ∃ v, e = .returned v ∧ (v = .int .u32 (n i : Nat) ∧ Fr (fun _ => False) w w') := by
  obtain ⟨c, hc, hs, h4⟩ := h.mm.ex
  have hp := h.pm.lt i hi
  exact link (off := 8) hc (h.mm.bd i hi).1 (by rw [Nat.zero_add]; exact (h4 i hi).1) (by omega) (by omega)
theorem St.read_o (h : St w bS bP bC bM k π n o nw od) {i : Nat} (hi : i < k) :
    Calls Yba.prog 8 #[chunkV bM k (π i), .int .i64 12] w fun e w' => ∃ v, e = .returned v ∧ (v = .int .u32 (o i : Nat) ∧ Fr (fun _ => False) w w') := by
  obtain ⟨c, hc, hs, h4⟩ := h.mm.ex
  have hp := h.pm.lt i hi
  exact link (off := 12) hc (h.mm.bd i hi).2 (by rw [Nat.zero_add]; exact (h4 i hi).2) (by omega) (by omega)
theorem St.set_n (h : St w bS bP bC bM k π n o nw od) {i v : Nat} (hi : i < k) (hv : v < 4294967296) :
    Calls Yba.prog 6 #[chunkV bM k (π i), .int .i64 8, .int .u32 (v : Nat)] w fun e w' => ∃ r, e = .returned r ∧ (St w' bS bP bC bM k π (up n i v) o nw od ∧ Fr (SB bM bC) w w') := by
  obtain ⟨c, hc, hs, h4⟩ := h.mm.ex
  have hp := h.pm.lt i hi
  refine (setLink (off := 8) (cap := k * 48 - π i * 48) (len := π i * 48 + 48 - π i * 48) (o := 0 + π i * 48) hc hv (by omega) (by omega) (by omega)).mono ?_
  rintro e w' ⟨r, rfl, hb, hf⟩
  refine ⟨r, rfl, ⟨h.fx.keep hf (by have := h.d1; exact this) (by have := h.d2; exact this), ⟨⟨_, hb, by rw [put4_size, hs], ?_⟩, ?_⟩, hf.keep h.cl (by have := h.d3; exact this), h.pm, h.hk, h.d1, h.d2, h.d3, h.d4, h.d5⟩, hf.mono (fun _ _ h => .inl h)⟩
  · intro j hj
    rw [Nat.zero_add]
    by_cases hji : j = i
    · subst hji
      rw [up_eq]
      exact ⟨put4_at (by omega), put4_keep (h4 j hj).2 (by omega)⟩
    · have hne : π j ≠ π i := fun e => hji (h.pm.inj j i hj hi e)
      rw [up_ne _ _ hji]
      exact ⟨put4_keep (h4 j hj).1 (by omega), put4_keep (h4 j hj).2 (by omega)⟩
  · intro j hj
    have := h.mm.bd j hj
    unfold up
    split <;> omega
theorem St.set_o (h : St w bS bP bC bM k π n o nw od) {i v : Nat} (hi : i < k) (hv : v < 4294967296) :
    Calls Yba.prog 6 #[chunkV bM k (π i), .int .i64 12, .int .u32 (v : Nat)] w fun e w' => ∃ r, e = .returned r ∧ (St w' bS bP bC bM k π n (up o i v) nw od ∧ Fr (SB bM bC) w w') := by
  obtain ⟨c, hc, hs, h4⟩ := h.mm.ex
  have hp := h.pm.lt i hi
  refine (setLink (off := 12) (cap := k * 48 - π i * 48) (len := π i * 48 + 48 - π i * 48) (o := 0 + π i * 48) hc hv (by omega) (by omega) (by omega)).mono ?_
  rintro e w' ⟨r, rfl, hb, hf⟩
  refine ⟨r, rfl, ⟨h.fx.keep hf (by have := h.d1; exact this) (by have := h.d2; exact this), ⟨⟨_, hb, by rw [put4_size, hs], ?_⟩, ?_⟩, hf.keep h.cl (by have := h.d3; exact this), h.pm, h.hk, h.d1, h.d2, h.d3, h.d4, h.d5⟩, hf.mono (fun _ _ h => .inl h)⟩
  · intro j hj
    rw [Nat.zero_add]
    by_cases hji : j = i
    · subst hji
      rw [up_eq]
      exact ⟨put4_keep (h4 j hj).1 (by omega), put4_at (by omega)⟩
    · have hne : π j ≠ π i := fun e => hji (h.pm.inj j i hj hi e)
      rw [up_ne _ _ hji]
      exact ⟨put4_keep (h4 j hj).1 (by omega), put4_keep (h4 j hj).2 (by omega)⟩
  · intro j hj
    have := h.mm.bd j hj
    unfold up
    split <;> omega
theorem St.set_nw (h : St w bS bP bC bM k π n o nw od) (v : Nat) : St (w.setRow bC #[.int .i64 0, .int .u32 (v : Nat), .int .u32 (od : Nat), .int .i64 0]) bS bP bC bM k π n o v od := by
  have hf : Fr (fun b => b = bC) w (w.setRow bC #[.int .i64 0, .int .u32 (v : Nat), .int .u32 (od : Nat), .int .i64 0]) := (Fr.refl w).set _ _ (fun _ => rfl)
  exact ⟨h.fx.keep hf (by have := h.d4; exact this) (by have := h.d5; exact this), h.mm.keep hf (by have := h.d3; exact fun e => this e.symm), sr_eq h.cl, h.pm, h.hk, h.d1, h.d2, h.d3, h.d4, h.d5⟩
theorem St.set_od (h : St w bS bP bC bM k π n o nw od) (v : Nat) : St (w.setRow bC #[.int .i64 0, .int .u32 (nw : Nat), .int .u32 (v : Nat), .int .i64 0]) bS bP bC bM k π n o nw v := by
  have hf : Fr (fun b => b = bC) w (w.setRow bC #[.int .i64 0, .int .u32 (nw : Nat), .int .u32 (v : Nat), .int .i64 0]) := (Fr.refl w).set _ _ (fun _ => rfl)
  exact ⟨h.fx.keep hf (by have := h.d4; exact this) (by have := h.d5; exact this), h.mm.keep hf (by have := h.d3; exact fun e => this e.symm), sr_eq h.cl, h.pm, h.hk, h.d1, h.d2, h.d3, h.d4, h.d5⟩
end

set_option maxRecDepth 100000 in
theorem relink {w : World} {bS bP bC bM k : Nat} {π n o : Nat → Nat} {nw od j older newer : Nat} (h : St w bS bP bC bM k π n o nw od) (hj : j < k) (ho : older < 4294967296) (hn : newer < 4294967296)
    (hnj : n j = if j = 0 then 0 else 2048 + π (j - 1)) (hoj : o j = if j + 1 < k then 2048 + π (j + 1) else 0) :
    Calls Yba.prog 13 #[.pointer (some ⟨bS, 0, none⟩), .int .u32 ((2048 + π j : Nat) : Int), .int .u32 (older : Nat), .int .u32 (newer : Nat)] w fun e w' => ∃ r, e = .returned r ∧
      (St w' bS bP bC bM k π (if j + 1 < k then up n (j + 1) newer else n) (if j = 0 then o else up o (j - 1) older) (if j = 0 then older else nw) (if j + 1 < k then od else newer) ∧ Fr (SB bM bC) w w') := by
  have hfr0 : Fr (SB bM bC) w w := Fr.refl w
  have hlt := h.pm.lt
  have hk := h.hk
  refine calls_of Yba.func13 rfl rfl ?_
  refine WP.seq ?_
  have FRsz := Fr.size hfr0
  refine WP.region ?_
  refine RL.val rfl (ex_move (by conv => lhs; whnf)) ?_
  refine RL.val rfl (ex_move (by conv => lhs; whnf)) ?_
  refine RL.call rfl (ex_call2 rfl (by conv => lhs; whnf) (by conv => lhs; whnf) Yba.fun5) (h.chunk hj) ?_
  rintro v w1 ⟨rfl, hf1⟩
  refine RL.val rfl (ex_assign (by conv => lhs; whnf)) ?_
  refine RL.nil ?_
  have h1 := h.pure hf1
  refine WP.seq ?_
  refine WP.draw [] (by kernel_rfl) ?_
  refine AE.take 0 rfl (by kernel_rfl) rfl (fun w' hw => ex_move (by conv => lhs; whnf)) (Ext.drew (Ext.refl _) 1) ?_
  refine AE.take 1 rfl (by kernel_rfl) rfl (fun w' hw => ex_nilCheck (by conv => lhs; whnf)) (Ext.drew (Ext.refl _) 1) ?_
  refine AE.take 2 rfl (by kernel_rfl) rfl (fun w' hw => ex_fieldAddr (by conv => lhs; whnf) Yba.fo59_9) (Ext.drew (Ext.refl _) 1) ?_
  refine AE.take 3 rfl (by kernel_rfl) rfl (fun w' hw => ex_load (by conv => lhs; whnf) Yba.sc30 (Ext.cell hw h1.fx.classes)) (Ext.drew (Ext.refl _) 1) ?_
  refine AE.take 4 rfl (by kernel_rfl) rfl (fun w' hw => ex_move (by conv => lhs; whnf)) (Ext.drew (Ext.refl _) 1) ?_
  refine AE.take 5 rfl (by kernel_rfl) rfl (fun w' hw => ex_move (by conv => lhs; whnf)) (Ext.drew (Ext.refl _) 1) ?_
  refine AE.call 6 rfl (by kernel_rfl) rfl (ex_call2 rfl (by conv => lhs; whnf) (by conv => lhs; whnf) Yba.fun16) (classOfItem (h1.pure (Fr.drew (Fr.refl _) 1)).fx (by have := hlt j hj; omega)) ?_
  rintro v w2 ⟨rfl, hf2⟩
  refine ⟨fun _ => Ext.trans (Ext.drew (Ext.refl _) 1) (Ext.of_fr hf2), ?_⟩
  refine AE.take 7 rfl (by kernel_rfl) rfl (fun w' hw => ex_indexAddr (i := 0) (m := 0) (by conv => lhs; whnf) (by conv => lhs; whnf) Yba.sl30 Yba.sz65 rfl (by omega)) (Ext.trans (Ext.drew (Ext.refl _) 1) (Ext.of_fr hf2)) ?_
  refine AE.take 8 rfl (by kernel_rfl) rfl (fun w' hw => ex_assign (by conv => lhs; whnf)) (Ext.trans (Ext.drew (Ext.refl _) 1) (Ext.of_fr hf2)) ?_
  refine AE.nil (by kernel_rfl) ?_
  have h2 := (h1.pure (Fr.drew (Fr.refl _) 1)).pure hf2
  have hfr2 : Fr (SB bM bC) w w2 := (hf1.trans ((Fr.drew (Fr.refl _) 1).trans hf2 (fun _ _ h => h)) (fun _ _ h => h)).mono (fun _ _ h => h.elim)
  refine WP.seqc (fun F wr => Has F [(0, .pointer (some ⟨bS, 0, none⟩)), (3, .int .u32 (newer : Nat)), (8, chunkV bM k (π j)), (9, .pointer (some ⟨bC, 0, none⟩))] ∧
    St wr bS bP bC bM k π n (if j = 0 then o else up o (j - 1) older) (if j = 0 then older else nw) od ∧ Fr (SB bM bC) w wr) ?_ ?_
  · refine WP.seq ?_
    by_cases hj0 : j = 0
    · rw [if_pos hj0] at hnj
      rw [if_pos hj0, if_pos hj0]
      refine WP.region ?_
      refine RL.val rfl (ex_move (by conv => lhs; whnf)) ?_
      refine RL.call rfl (ex_call2 rfl (by conv => lhs; whnf) (by conv => lhs; whnf) Yba.fun8) (by have := h2.read_n hj; rw [hnj] at this; exact this) ?_
      rintro v w3 ⟨rfl, hf3⟩
      refine RL.val rfl (ex_assign (by conv => lhs; whnf)) ?_
      refine RL.nil ?_
      refine WP.seq ?_
      refine WP.region ?_
      refine RL.val rfl (ex_move (by conv => lhs; whnf)) ?_
      refine RL.val rfl (ex_neq (by conv => lhs; whnf) (by conv => lhs; whnf)) ?_
      refine RL.nil ?_
      refine WP.cond_false rfl ?_
      have h3 := h2.pure hf3
      refine WP.region ?_
      refine RL.val rfl (ex_move (by conv => lhs; whnf)) ?_
      refine RL.val rfl (ex_move (by conv => lhs; whnf)) ?_
      refine RL.val rfl (ex_nilCheck (by conv => lhs; whnf)) ?_
      refine RL.val rfl (ex_fieldAddr (by conv => lhs; whnf) Yba.fo65_1) ?_
      refine RL.unit (ex_store (by conv => lhs; whnf) (by conv => lhs; whnf) Yba.sc26 rfl h3.cl rfl) ?_
      refine RL.nil ?_
      exact ⟨⟨rfl, rfl, rfl, rfl, trivial⟩, h3.set_nw older, (hfr2.trans hf3 (fun _ _ h => h.elim)).set _ _ (fun _ => .inr rfl)⟩
    · rw [if_neg hj0] at hnj
      rw [if_neg hj0, if_neg hj0]
      refine WP.region ?_
      refine RL.val rfl (ex_move (by conv => lhs; whnf)) ?_
      refine RL.call rfl (ex_call2 rfl (by conv => lhs; whnf) (by conv => lhs; whnf) Yba.fun8) (by have := h2.read_n hj; rw [hnj] at this; exact this) ?_
      rintro v w3 ⟨rfl, hf3⟩
      refine RL.val rfl (ex_assign (by conv => lhs; whnf)) ?_
      refine RL.nil ?_
      refine WP.seq ?_
      refine WP.region ?_
      refine RL.val rfl (ex_move (by conv => lhs; whnf)) ?_
      refine RL.val rfl (ex_neq (by conv => lhs; whnf) (by conv => lhs; whnf)) ?_
      refine RL.nil ?_
      refine WP.cond_true (congrArg Value.bool (decide_eq_true (by omega))) ?_
      have h3 := h2.pure hf3
      refine WP.region ?_
      refine RL.val rfl (ex_move (by conv => lhs; whnf)) ?_
      refine RL.val rfl (ex_move (by conv => lhs; whnf)) ?_
      refine RL.call rfl (ex_call2 rfl (by conv => lhs; whnf) (by conv => lhs; whnf) Yba.fun5) (h3.chunk (i := j - 1) (by omega)) ?_
      rintro v w4 ⟨rfl, hf4⟩
      have h4 := h3.pure hf4
      refine RL.val rfl (ex_move (by conv => lhs; whnf)) ?_
      refine RL.call rfl (ex_call3 rfl (by conv => lhs; whnf) (by conv => lhs; whnf) (by conv => lhs; whnf) Yba.fun6) (h4.set_o (i := j - 1) (by omega) ho) ?_
      rintro v w5 ⟨h5, hf5⟩
      refine RL.nil ?_
      exact ⟨⟨rfl, rfl, rfl, rfl, trivial⟩, h5, ((hfr2.trans hf3 (fun _ _ h => h.elim)).trans hf4 (fun _ _ h => h.elim)).trans hf5 (fun _ _ h => h)⟩
  · generalize hgo : (if j = 0 then o else up o (j - 1) older) = o1
    generalize hgn : (if j = 0 then older else nw) = nw1
    have ho1 : o1 j = o j := by
      rw [← hgo]
      split
      · rfl
      · exact up_ne _ _ (by omega)
    rintro F wr ⟨hF, h6, hfr6⟩
    obtain ⟨G, rfl⟩ := hF.get
    clear hF
    refine WP.seq ?_
    refine WP.region ?_
    refine RL.val rfl (ex_move (by conv => lhs; whnf)) ?_
    by_cases hjl : j + 1 < k
    · rw [if_pos hjl] at hoj
      rw [if_pos hjl, if_pos hjl]
      refine RL.call rfl (ex_call2 rfl (by conv => lhs; whnf) (by conv => lhs; whnf) Yba.fun8) (by have := h6.read_o hj; rw [ho1, hoj] at this; exact this) ?_
      rintro v w7 ⟨rfl, hf7⟩
      have h7 := h6.pure hf7
      refine RL.val rfl (ex_assign (by conv => lhs; whnf)) ?_
      refine RL.nil ?_
      refine WP.seq ?_
      refine WP.region ?_
      refine RL.val rfl (ex_move (by conv => lhs; whnf)) ?_
      refine RL.val rfl (ex_neq (by conv => lhs; whnf) (by conv => lhs; whnf)) ?_
      refine RL.nil ?_
      refine WP.cond_true (congrArg Value.bool (decide_eq_true (by omega))) ?_
      refine WP.region ?_
      refine RL.val rfl (ex_move (by conv => lhs; whnf)) ?_
      refine RL.val rfl (ex_move (by conv => lhs; whnf)) ?_
      refine RL.call rfl (ex_call2 rfl (by conv => lhs; whnf) (by conv => lhs; whnf) Yba.fun5) (h7.chunk (i := j + 1) (by omega)) ?_
      rintro v w8 ⟨rfl, hf8⟩
      have h8 := h7.pure hf8
      refine RL.val rfl (ex_move (by conv => lhs; whnf)) ?_
      refine RL.call rfl (ex_call3 rfl (by conv => lhs; whnf) (by conv => lhs; whnf) (by conv => lhs; whnf) Yba.fun6) (h8.set_n (i := j + 1) (by omega) hn) ?_
      rintro v w9 ⟨h9, hf9⟩
      refine RL.nil ?_
      exact bodyQ_none rfl ⟨h9, ((hfr6.trans hf7 (fun _ _ h => h.elim)).trans hf8 (fun _ _ h => h.elim)).trans hf9 (fun _ _ h => h)⟩
    · rw [if_neg hjl] at hoj
      rw [if_neg hjl, if_neg hjl]
      refine RL.call rfl (ex_call2 rfl (by conv => lhs; whnf) (by conv => lhs; whnf) Yba.fun8) (by have := h6.read_o hj; rw [ho1, hoj] at this; exact this) ?_
      rintro v w7 ⟨rfl, hf7⟩
      have h7 := h6.pure hf7
      refine RL.val rfl (ex_assign (by conv => lhs; whnf)) ?_
      refine RL.nil ?_
      refine WP.seq ?_
      refine WP.region ?_
      refine RL.val rfl (ex_move (by conv => lhs; whnf)) ?_
      refine RL.val rfl (ex_neq (by conv => lhs; whnf) (by conv => lhs; whnf)) ?_
      refine RL.nil ?_
      refine WP.cond_false rfl ?_
      refine WP.region ?_
      refine RL.val rfl (ex_move (by conv => lhs; whnf)) ?_
      refine RL.val rfl (ex_move (by conv => lhs; whnf)) ?_
      refine RL.val rfl (ex_nilCheck (by conv => lhs; whnf)) ?_
      refine RL.val rfl (ex_fieldAddr (by conv => lhs; whnf) Yba.fo65_2) ?_
      refine RL.unit (ex_store (by conv => lhs; whnf) (by conv => lhs; whnf) Yba.sc26 rfl h7.cl rfl) ?_
      refine RL.nil ?_
      exact bodyQ_none rfl ⟨h7.set_od newer, (hfr6.trans hf7 (fun _ _ h => h.elim)).set _ _ (fun _ => .inr rfl)⟩

set_option maxRecDepth 100000 in
theorem unlink {w : World} {bS bP bC bM k : Nat} {π n o : Nat → Nat} {nw od j : Nat} (h : St w bS bP bC bM k π n o nw od) (hj : j < k)
    (hnj : n j = if j = 0 then 0 else 2048 + π (j - 1)) (hoj : o j = if j + 1 < k then 2048 + π (j + 1) else 0) :
    Calls Yba.prog 7 #[.pointer (some ⟨bS, 0, none⟩), .int .u32 ((2048 + π j : Nat) : Int)] w fun e w' => ∃ r, e = .returned r ∧
      (St w' bS bP bC bM k π (up (if j + 1 < k then up n (j + 1) (n j) else n) j 0) (up (if j = 0 then o else up o (j - 1) (o j)) j 0) (if j = 0 then o j else nw) (if j + 1 < k then od else n j) ∧ Fr (SB bM bC) w w') := by
  refine calls_of Yba.func7 rfl rfl ?_
  refine WP.seq ?_
  refine WP.region ?_
  refine RL.val rfl (ex_move (by conv => lhs; whnf)) ?_
  refine RL.val rfl (ex_move (by conv => lhs; whnf)) ?_
  refine RL.call rfl (ex_call2 rfl (by conv => lhs; whnf) (by conv => lhs; whnf) Yba.fun5) (h.chunk hj) ?_
  rintro v w1 ⟨rfl, hf1⟩
  refine RL.val rfl (ex_assign (by conv => lhs; whnf)) ?_
  refine RL.nil ?_
  have h1 := h.pure hf1
  refine WP.seq ?_
  refine WP.region ?_
  refine RL.val rfl (ex_move (by conv => lhs; whnf)) ?_
  refine RL.val rfl (ex_move (by conv => lhs; whnf)) ?_
  refine RL.val rfl (ex_move (by conv => lhs; whnf)) ?_
  refine RL.call rfl (ex_call2 rfl (by conv => lhs; whnf) (by conv => lhs; whnf) Yba.fun8) (h1.read_o hj) ?_
  rintro v w2 ⟨rfl, hf2⟩
  have h2 := h1.pure hf2
  refine RL.val rfl (ex_move (by conv => lhs; whnf)) ?_
  refine RL.call rfl (ex_call2 rfl (by conv => lhs; whnf) (by conv => lhs; whnf) Yba.fun8) (h2.read_n hj) ?_
  rintro v w3 ⟨rfl, hf3⟩
  have h3 := h2.pure hf3
  refine RL.call rfl (ex_call4 rfl (by conv => lhs; whnf) (by conv => lhs; whnf) (by conv => lhs; whnf) (by conv => lhs; whnf) Yba.fun13) (relink h3 hj (h3.mm.bd j hj).2 (h3.mm.bd j hj).1 hnj hoj) ?_
  rintro v w4 ⟨h4, hf4⟩
  refine RL.nil ?_
  have hfr4 : Fr (SB bM bC) w w4 := ((hf1.trans (hf2.trans hf3 (fun _ _ h => h)) (fun _ _ h => h)).mono (fun _ _ h => h.elim)).trans hf4 (fun _ _ h => h)
  refine WP.seq ?_
  refine WP.region ?_
  refine RL.val rfl (ex_move (by conv => lhs; whnf)) ?_
  refine RL.call rfl (ex_call3 rfl (by conv => lhs; whnf) (by conv => lhs; whnf) (by rfl) Yba.fun6) (h4.set_n (v := 0) hj (by omega)) ?_
  rintro v w5 ⟨h5, hf5⟩
  refine RL.nil ?_
  refine WP.region ?_
  refine RL.val rfl (ex_move (by conv => lhs; whnf)) ?_
  refine RL.call rfl (ex_call3 rfl (by conv => lhs; whnf) (by conv => lhs; whnf) (by rfl) Yba.fun6) (h5.set_o (v := 0) hj (by omega)) ?_
  rintro v w6 ⟨h6, hf6⟩
  refine RL.nil ?_
  exact bodyQ_none rfl ⟨h6, (hfr4.trans hf5 (fun _ _ h => h)).trans hf6 (fun _ _ h => h)⟩
end Go.Proofs.Ybulknlk
