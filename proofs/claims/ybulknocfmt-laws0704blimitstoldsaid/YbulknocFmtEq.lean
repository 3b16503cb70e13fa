/- Windows made; clamp; Index; Equal; two lists of pieces compared. -/
import Derived.Test.YbulknocFmtPiece
namespace Go.Proofs.YbulknocFmt
open Go Go.Eng Go.RowKit
set_option linter.unusedSimpArgs false
set_option linter.unusedVariables false

theorem ex_remN {P : Program} {ρ : Operand → Value} {ty : TypeId} {w : World} {t t' : TypeId} {x y : Operand} {k : IntKind} {a m : Nat} {b : Int} (hx : ρ x = .int k (a : Nat)) (hy : ρ y = .int k b) (hb : b = (m : Nat)) (hm : 0 < m) :
    ex P ρ (.binOp .rem t x y t') ty w = .ok (.value (.int k ((a % m : Nat) : Int))) w := by
  have h := ex_rem (P := P) (w := w) (ty := ty) (t := t) (t' := t') hx hy (by omega)
  rw [h, hb, ← Int.ofNat_tmod]

def winOf (e p : Nat) (o : Int) : Win := ⟨1 + ((e % 8 : Nat) : Int), 1 + ((p % 16 : Nat) : Int), o⟩
theorem winOf_ok {e p : Nat} {o : Int} (h1 : -128 ≤ o) (h2 : o ≤ 127) : (winOf e p o).Ok := ⟨by simp only [winOf]; omega, by simp only [winOf]; omega, by simp only [winOf]; omega, by simp only [winOf]; omega, h1, h2⟩
set_option maxRecDepth 100000 in
theorem mkWin {w : World} {e p : Nat} {o : Int} (he : e < 256) (hp : p < 256) (h1 : -128 ≤ o) (h2 : o ≤ 127) : Calls Ybaf.prog 7 #[.int .u8 (e : Nat), .int .u8 (p : Nat), .int .i8 o] w fun e' w' => ∃ v, e' = .returned v ∧ (v = .agg (winRow (winOf e p o)) ∧ Fr (fun _ => False) w w') := by
  have hfr0 : Fr (fun _ => False) w w := Fr.refl w
  refine calls_of Ybaf.func7 rfl rfl ?_
  refine WP.seq ?_
  have FRsz := Fr.size hfr0
  refine WP.region ?_
  refine RL.val rfl (ex_alloc Ybaf.zo32 (by first | (conv => lhs; simp only [sz_al, sz_sr, sz_dn]) | rfl)) ?_
  refine RL.nil ?_
  refine WP.seq ?_
  refine WP.region ?_
  refine RL.val rfl (ex_move (by conv => lhs; whnf)) ?_
  refine RL.val rfl (ex_remN (b := 8) (m := 8) (by conv => lhs; whnf) (by conv => lhs; whnf) rfl (by omega)) ?_
  refine RL.val rfl (ex_convert (by conv => lhs; whnf) Ybaf.cv5_2 Ybaf.kd2 (wrap_i64 (by omega) (by omega))) ?_
  refine RL.val rfl (ex_add (by conv => lhs; whnf) (by conv => lhs; whnf) (wrap_i64 (by omega) (by omega))) ?_
  refine RL.val rfl (ex_move (by conv => lhs; whnf)) ?_
  refine RL.val rfl (ex_remN (b := 16) (m := 16) (by conv => lhs; whnf) (by conv => lhs; whnf) rfl (by omega)) ?_
  refine RL.val rfl (ex_convert (by conv => lhs; whnf) Ybaf.cv5_2 Ybaf.kd2 (wrap_i64 (by omega) (by omega))) ?_
  refine RL.val rfl (ex_add (by conv => lhs; whnf) (by conv => lhs; whnf) (wrap_i64 (by omega) (by omega))) ?_
  refine RL.val rfl (ex_move (by conv => lhs; whnf)) ?_
  refine RL.val rfl (ex_convert (by conv => lhs; whnf) Ybaf.cv25_2 Ybaf.kd2 (wrap_i64 (by omega) (by omega))) ?_
  refine RL.val rfl (Ybaf.bl32_0_1_2 (by conv => lhs; whnf) rfl (by conv => lhs; whnf) rfl (by conv => lhs; whnf) rfl) ?_
  refine RL.unit (ex_storeW (by conv => lhs; whnf) (by conv => lhs; whnf) Ybaf.ag32 (an' (by first | (simp only [sz_al, sz_sr, sz_dn]; done) | rfl | omega | (simp only [sz_al, sz_sr, sz_dn]; omega))) (by rfl) (by rfl) (by rfl)) ?_
  refine RL.nil ?_
  refine WP.ret ?_
  repeat (first | refine thenQ_ret ?_ | refine blockQ_ret ?_)
  exact bodyQ_cell rfl rfl (sr_eq (an' (by first | (simp only [sz_al, sz_sr, sz_dn]; done) | rfl | omega | (simp only [sz_al, sz_sr, sz_dn]; omega)))) Ybaf.ag32 rfl ⟨rfl, (Fr.set (Fr.alloc hfr0 _) _ _ (fun hh => by first | exact rfl | exact .inl rfl | exact .inr (.inl rfl) | exact .inr (.inr rfl) | ((try simp only [sz_al, sz_sr, sz_dn] at hh); (try simp only [sz_al, sz_sr, sz_dn]); (first | omega | (dsimp only; omega) | exact .inl rfl | exact .inr (.inl rfl)))))⟩
theorem clamp {w : World} {v lo hi : Int} : Calls Ybaf.prog 20 #[.int .i64 v, .int .i64 lo, .int .i64 hi] w fun e' w' => ∃ r, e' = .returned r ∧ (r = .int .i64 (min (max v lo) hi) ∧ w' = w) := by
  refine calls_of Ybaf.func20 rfl rfl ?_
  refine WP.seq ?_
  refine WP.region ?_
  refine RL.val rfl (ex_assign (by conv => lhs; whnf)) ?_
  refine RL.nil ?_
  refine WP.seq ?_
  refine WP.region ?_
  refine RL.val rfl (ex_move (by conv => lhs; whnf)) ?_
  refine RL.val rfl (ex_move (by conv => lhs; whnf)) ?_
  refine RL.val rfl (ex_max (by conv => lhs; whnf) (by conv => lhs; whnf)) ?_
  refine RL.val rfl (ex_move (by conv => lhs; whnf)) ?_
  refine RL.val rfl (ex_min (by conv => lhs; whnf) (by conv => lhs; whnf)) ?_
  refine RL.val rfl (ex_assign (by conv => lhs; whnf)) ?_
  refine RL.nil ?_
  refine WP.ret ?_
  repeat (first | refine thenQ_ret ?_ | refine blockQ_ret ?_)
  exact bodyQ_tmp rfl ⟨rfl, rfl⟩

/-- A row of numbers that a slice leads to. -/
structure IntsAt (w : World) (v : Value) (l : List Int) : Prop where
  ex : (l = [] ∧ ∃ a c, v = .slice a 0 c) ∨ ∃ b o cap, v = .slice (some ⟨b, o, none⟩) l.length cap ∧ ∀ (j : Nat) z, l[j]? = some z → w.cell? ⟨b, o + j, none⟩ = some (.int .i64 z)
theorem IntsAt.form {w : World} {v : Value} {l : List Int} (h : IntsAt w v l) : ∃ a c, v = .slice a l.length c ∧ ∀ (j : Nat) z, l[j]? = some z → ∃ b o, a = some ⟨b, o, none⟩ ∧ w.cell? ⟨b, o + j, none⟩ = some (.int .i64 z) := by
  rcases h.ex with ⟨rfl, a, c, rfl⟩ | ⟨b, o, cap, rfl, hc⟩
  · exact ⟨a, c, rfl, fun j z h => by simp at h⟩
  · exact ⟨_, cap, rfl, fun j z hz => ⟨b, o, rfl, hc j z hz⟩⟩

theorem idxOf_le {z : Int} : ∀ {l : List Int} {i : Nat}, l[i]? = some z → l.idxOf z ≤ i
  | [], i, h => by simp at h
  | a :: l, 0, h => by
    have : a = z := by simpa using h
    subst this
    simp [List.idxOf_cons]
  | a :: l, i + 1, h => by
    have h1 : l[i]? = some z := by simpa using h
    have := idxOf_le h1
    rw [List.idxOf_cons]
    cases a == z <;> simp <;> omega

set_option maxRecDepth 100000 in
theorem indexOf {w : World} {v : Value} {l : List Int} {z : Int} (h : IntsAt w v l) (hl : l.length ≤ 10000000) : Calls Ybaf.prog 19 #[v, .int .i64 z] w fun e' w' => ∃ r, e' = .returned r ∧ (r = .int .i64 (if z ∈ l then ((l.idxOf z : Nat) : Int) else -1) ∧ w' = w) := by
  obtain ⟨a, c, rfl, hcell⟩ := h.form
  refine calls_of Ybaf.func19 rfl rfl ?_
  refine WP.seq ?_
  refine WP.region ?_
  refine RL.val rfl (ex_assign (by conv => lhs; whnf)) ?_
  refine RL.nil ?_
  refine WP.seqc (fun F wr => z ∉ l ∧ wr = w) ?_ ?_
  · refine WP.seq ?_
    refine WP.region ?_
    refine RL.val rfl (ex_move (by conv => lhs; whnf)) ?_
    refine RL.val rfl (ex_len (by conv => lhs; whnf) Ybaf.sl58) ?_
    refine RL.val rfl (ex_move (by conv => lhs; whnf)) ?_
    refine RL.nil ?_
    refine WP.block ?_
    refine WP.loopk (fun m F wr => ∃ i : Nat, m = l.length - i ∧ i ≤ l.length ∧ (∀ t, t < i → l[t]? ≠ some z) ∧ Has F [(0, .slice a l.length c), (1, .int .i64 z), (7, .int .i64 (l.length : Nat)), (8, .int .i64 (i : Nat))] ∧ wr = w) l.length ⟨0, rfl, Nat.zero_le _, fun t ht => by omega, ⟨rfl, rfl, rfl, rfl, trivial⟩, rfl⟩ ?_
    rintro m F wr ⟨i, rfl, hi, hno, hF, rfl⟩ K hK
    obtain ⟨G, rfl⟩ := hF.get
    clear hF
    refine WP.seq ?_
    refine WP.region ?_
    refine RL.val rfl (ex_lss (by conv => lhs; whnf) (by conv => lhs; whnf)) ?_
    refine RL.nil ?_
    refine WP.seq ?_
    refine WP.cond _ (by conv => lhs; whnf) (fun hlt1 => ?_) (fun hlt1 => ?_)
    rotate_left
    · have hik : i = l.length := by have := of_decide_eq_false hlt1; omega
      refine WP.exit ?_
      repeat (first | refine thenQ_exit ?_ | refine blockQ_hit ?_ | refine blockQ_miss rfl ?_)
      refine ⟨fun hm => ?_, rfl⟩
      obtain ⟨n, hn, e⟩ := List.getElem_of_mem hm
      exact hno n (by omega) (by rw [List.getElem?_eq_getElem hn, e])
    have hik : i < l.length := by have := of_decide_eq_true hlt1; omega
    obtain ⟨u, hu⟩ : ∃ u, l[i]? = some u := ⟨_, List.getElem?_eq_getElem hik⟩
    obtain ⟨b, o, rfl, hc⟩ := hcell i u hu
    refine WP.skip ?_
    refine WP.seq ?_
    refine WP.block ?_
    refine WP.seq ?_
    refine WP.region ?_
    refine RL.val rfl (ex_move (by conv => lhs; whnf)) ?_
    refine RL.val rfl (ex_assign (by conv => lhs; whnf)) ?_
    refine RL.nil ?_
    refine WP.seq ?_
    refine WP.region ?_
    refine RL.val rfl (ex_move (by conv => lhs; whnf)) ?_
    refine RL.val rfl (ex_move (by conv => lhs; whnf)) ?_
    refine RL.val rfl (ex_move (by conv => lhs; whnf)) ?_
    refine RL.val rfl (ex_ixa (by conv => lhs; whnf) (by conv => lhs; whnf) Ybaf.sl58 Ybaf.sz2 rfl (by omega)) ?_
    refine RL.val rfl (ex_load (by conv => lhs; whnf) Ybaf.sc2 hc) ?_
    refine RL.val rfl (ex_eql (by conv => lhs; whnf) (by conv => lhs; whnf)) ?_
    refine RL.nil ?_
    by_cases hz : z = u
    · refine WP.cond_true (congrArg Value.bool (decide_eq_true hz)) ?_
      refine WP.seq ?_
      refine WP.region ?_
      refine RL.val rfl (ex_move (by conv => lhs; whnf)) ?_
      refine RL.val rfl (ex_assign (by conv => lhs; whnf)) ?_
      refine RL.nil ?_
      refine WP.ret ?_
      repeat (first | refine thenQ_ret ?_ | refine blockQ_ret ?_)
      refine bodyQ_tmp rfl ⟨?_, rfl⟩
      subst hz
      have hm : z ∈ l := List.mem_of_getElem? hu
      rw [if_pos hm]
      have hidx : l.idxOf z = i := by
        have h1 := List.idxOf_lt_length_of_mem hm
        have h2 : l[l.idxOf z]? = some z := by rw [List.getElem?_eq_getElem h1, List.getElem_idxOf]
        rcases Nat.lt_trichotomy (l.idxOf z) i with h3 | h3 | h3
        · exact absurd h2 (hno _ h3)
        · exact h3
        · have := idxOf_le hu
          omega
      rw [hidx]
      rfl
    · refine WP.cond_false (congrArg Value.bool (decide_eq_false hz)) ?_
      refine WP.skip ?_
      refine WP.region ?_
      refine RL.val rfl (ex_add (c := ((i + 1 : Nat) : Int)) (by conv => lhs; whnf) (by conv => lhs; whnf) (by rw [IntKind.wrap_i64]; omega)) ?_
      refine RL.val rfl (ex_move (by conv => lhs; whnf)) ?_
      refine RL.nil ?_
      refine hK (l.length - (i + 1)) _ _ (by omega) ⟨i + 1, rfl, by omega, fun t ht => ?_, ⟨rfl, rfl, rfl, rfl, trivial⟩, rfl⟩
      by_cases hti : t = i
      · subst hti; rw [hu]; exact fun e => hz (by cases e; rfl)
      · exact hno t (by omega)
  rintro F wr ⟨hno, rfl⟩
  refine WP.seq ?_
  refine WP.region ?_
  refine RL.val rfl (ex_assign (by conv => lhs; whnf)) ?_
  refine RL.nil ?_
  refine WP.ret ?_
  repeat (first | refine thenQ_ret ?_ | refine blockQ_ret ?_)
  exact bodyQ_tmp rfl ⟨by rw [if_neg hno]; rfl, rfl⟩
set_option maxRecDepth 100000 in
theorem equalInts {w : World} {u v : Value} {l : List Int} (hu : IntsAt w u l) (hv : IntsAt w v l) (hl : l.length ≤ 10000000) : Calls Ybaf.prog 17 #[u, v] w fun e' w' => ∃ r, e' = .returned r ∧ (r = .bool true ∧ Fr (fun _ => False) w w') := by
  obtain ⟨a, c, rfl, hcell⟩ := hu.form
  obtain ⟨a', c', rfl, hcell'⟩ := hv.form
  refine calls_of Ybaf.func17 rfl rfl ?_
  refine WP.seq ?_
  refine WP.region ?_
  refine RL.val rfl (ex_assign (by conv => lhs; whnf)) ?_
  refine RL.nil ?_
  refine WP.seq ?_
  refine WP.seq ?_
  refine WP.region ?_
  refine RL.val rfl (ex_move (by conv => lhs; whnf)) ?_
  refine RL.val rfl (ex_len (by conv => lhs; whnf) Ybaf.sl46) ?_
  refine RL.val rfl (ex_move (by conv => lhs; whnf)) ?_
  refine RL.val rfl (ex_len (by conv => lhs; whnf) Ybaf.sl46) ?_
  refine RL.val rfl (ex_neq (by conv => lhs; whnf) (by conv => lhs; whnf)) ?_
  refine RL.nil ?_
  refine WP.cond_false (congrArg Value.bool (decide_eq_false (by simp))) ?_
  refine WP.skip ?_
  refine WP.seqc (fun F wr => Fr (fun _ => False) w wr) ?_ ?_
  · refine WP.seq ?_
    refine WP.region ?_
    refine RL.val rfl (ex_move (by conv => lhs; whnf)) ?_
    refine RL.val rfl (ex_len (by conv => lhs; whnf) Ybaf.sl46) ?_
    refine RL.val rfl (ex_move (by conv => lhs; whnf)) ?_
    refine RL.nil ?_
    refine WP.block ?_
    refine WP.loopk (fun m F wr => ∃ i : Nat, m = l.length - i ∧ i ≤ l.length ∧ Has F [(0, .slice a l.length c), (1, .slice a' l.length c'), (12, .int .i64 (l.length : Nat)), (13, .int .i64 (i : Nat))] ∧ Fr (fun _ => False) w wr) l.length ⟨0, rfl, Nat.zero_le _, ⟨rfl, rfl, rfl, rfl, trivial⟩, Fr.refl _⟩ ?_
    rintro m F wr ⟨i, rfl, hi, hF, hfr⟩ K hK
    obtain ⟨G, rfl⟩ := hF.get
    clear hF
    refine WP.seq ?_
    have FRsz := Fr.size hfr
    refine WP.region ?_
    refine RL.val rfl (ex_lss (by conv => lhs; whnf) (by conv => lhs; whnf)) ?_
    refine RL.nil ?_
    refine WP.seq ?_
    refine WP.cond _ (by conv => lhs; whnf) (fun hlt1 => ?_) (fun hlt1 => ?_)
    rotate_left
    · refine WP.exit ?_
      repeat (first | refine thenQ_exit ?_ | refine blockQ_hit ?_ | refine blockQ_miss rfl ?_)
      exact hfr
    have hik : i < l.length := by have := of_decide_eq_true hlt1; omega
    obtain ⟨z, hz⟩ : ∃ z, l[i]? = some z := ⟨_, List.getElem?_eq_getElem hik⟩
    obtain ⟨b, o, rfl, hc⟩ := hcell i z hz
    obtain ⟨b', o', rfl, hc'⟩ := hcell' i z hz
    have hc2 := hfr.cell hc id
    have hc2' := hfr.cell hc' id
    refine WP.skip ?_
    refine WP.seq ?_
    refine WP.block ?_
    refine WP.seq ?_
    refine WP.region ?_
    refine RL.val rfl (ex_move (by conv => lhs; whnf)) ?_
    refine RL.val rfl (ex_assign (by conv => lhs; whnf)) ?_
    refine RL.nil ?_
    refine WP.seq ?_
    refine WP.draw [] (by kernel_rfl) ?_
    refine AE.take 0 rfl (by kernel_rfl) rfl (fun w' hw => ex_move (by conv => lhs; whnf)) (Ext.drew (Ext.refl _) 1) ?_
    refine AE.take 1 rfl (by kernel_rfl) rfl (fun w' hw => ex_move (by conv => lhs; whnf)) (Ext.drew (Ext.refl _) 1) ?_
    refine AE.take 2 rfl (by kernel_rfl) rfl (fun w' hw => ex_ixa (by conv => lhs; whnf) (by conv => lhs; whnf) Ybaf.sl46 Ybaf.sz3 rfl (by omega)) (Ext.drew (Ext.refl _) 1) ?_
    refine AE.take 3 rfl (by kernel_rfl) rfl (fun w' hw => ex_load (by conv => lhs; whnf) Ybaf.sc3 (Ext.cell hw hc2)) (Ext.drew (Ext.refl _) 1) ?_
    refine AE.take 4 rfl (by kernel_rfl) rfl (fun w' hw => ex_move (by conv => lhs; whnf)) (Ext.drew (Ext.refl _) 1) ?_
    refine AE.take 5 rfl (by kernel_rfl) rfl (fun w' hw => ex_move (by conv => lhs; whnf)) (Ext.drew (Ext.refl _) 1) ?_
    refine AE.take 6 rfl (by kernel_rfl) rfl (fun w' hw => ex_ixa (by conv => lhs; whnf) (by conv => lhs; whnf) Ybaf.sl46 Ybaf.sz3 rfl (by omega)) (Ext.drew (Ext.refl _) 1) ?_
    refine AE.take 7 rfl (by kernel_rfl) rfl (fun w' hw => ex_load (by conv => lhs; whnf) Ybaf.sc3 (Ext.cell hw hc2')) (Ext.drew (Ext.refl _) 1) ?_
    refine AE.take 8 rfl (by kernel_rfl) rfl (fun w' hw => ex_neq (by conv => lhs; whnf) (by conv => lhs; whnf)) (Ext.drew (Ext.refl _) 1) ?_
    refine AE.nil (by kernel_rfl) ?_
    refine WP.cond_false (congrArg Value.bool (decide_eq_false (by simp))) ?_
    refine WP.skip ?_
    refine WP.region ?_
    refine RL.val rfl (ex_add (c := ((i + 1 : Nat) : Int)) (by conv => lhs; whnf) (by conv => lhs; whnf) (by rw [IntKind.wrap_i64]; omega)) ?_
    refine RL.val rfl (ex_move (by conv => lhs; whnf)) ?_
    refine RL.nil ?_
    exact hK (l.length - (i + 1)) _ _ (by omega) ⟨i + 1, rfl, by omega, ⟨rfl, rfl, rfl, rfl, trivial⟩, (Fr.drew hfr 1)⟩
  rintro F wr hfr
  refine WP.seq ?_
  refine WP.region ?_
  refine RL.val rfl (ex_assign (by conv => lhs; whnf)) ?_
  refine RL.nil ?_
  refine WP.ret ?_
  repeat (first | refine thenQ_ret ?_ | refine blockQ_ret ?_)
  exact bodyQ_tmp rfl ⟨rfl, hfr⟩
end Go.Proofs.YbulknocFmt
