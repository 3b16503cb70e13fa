/- Two lists of pieces compared. -/
import Derived.Test.YbulknocFmtEq
namespace Go.Proofs.YbulknocFmt
open Go Go.Eng Go.RowKit
set_option linter.unusedSimpArgs false
set_option linter.unusedVariables false

theorem Ext.set {w w' : World} (h : Ext w w') {g : Nat} {cs : Array Value} (hg : w.heap.size ≤ g) : Ext w (w'.setRow g cs) := ⟨fun hb => sr_ne (h.keep hb) (by have := lt_of hb; omega)⟩
structure Out where
  ti : Nat
  rows : List Nat
  start : Int
  stop : Int
def ints (l : List Nat) : List Int := l.map fun n => ((n : Nat) : Int)
structure PiecesAt (w : World) (v : Value) (L : List Out) : Prop where
  ex : ∃ a cap, v = .slice a L.length cap ∧ ∀ (i : Nat) q, L[i]? = some q → ∃ b o rv, a = some ⟨b, o, none⟩ ∧ w.cell? ⟨b, o + i * 4 + 0, none⟩ = some (.int .i64 (q.ti : Nat)) ∧ w.cell? ⟨b, o + i * 4 + 1, none⟩ = some rv ∧ w.cell? ⟨b, o + i * 4 + 2, none⟩ = some (.int .i64 q.start) ∧
    w.cell? ⟨b, o + i * 4 + 3, none⟩ = some (.int .i64 q.stop) ∧ IntsAt w rv (ints q.rows)
theorem IntsAt.keep {w w' : World} {v : Value} {l : List Int} (h : IntsAt w v l) (hf : Fr (fun _ => False) w w') : IntsAt w' v l :=
  ⟨h.ex.imp id fun ⟨b, o, cap, h1, h2⟩ => ⟨b, o, cap, h1, fun j z hz => hf.cell (h2 j z hz) id⟩⟩
theorem IntsAt.one {w : World} {v : Value} {l : List Int} (h : IntsAt w v l) : v.oneCell' = true := by
  rcases h.ex with ⟨_, a, c, rfl⟩ | ⟨b, o, cap, rfl, _⟩ <;> rfl
theorem four_get {b o : Nat} {w : World} {v0 v1 v2 v3 : Value} (h0 : w.cell? ⟨b, o + 0, none⟩ = some v0) (h1 : w.cell? ⟨b, o + 1, none⟩ = some v1) (h2 : w.cell? ⟨b, o + 2, none⟩ = some v2) (h3 : w.cell? ⟨b, o + 3, none⟩ = some v3) :
    ∀ (j : Nat) v, [v0, v1, v2, v3][j]? = some v → w.cell? ((⟨b, o, none⟩ : Addr).add j) = some v := by
  intro j v h
  rw [add_lit]
  match j, h with
  | 0, h => cases h; exact h0
  | 1, h => cases h; exact h1
  | 2, h => cases h; exact h2
  | 3, h => cases h; exact h3
  | n + 4, h => simp at h

theorem all4 {rv : Value} {a c d : Int} (h : rv.oneCell' = true) : ([Value.int .i64 a, rv, .int .i64 c, .int .i64 d].toArray).toList.all Value.oneCell' = true := by
  show (true && (rv.oneCell' && (true && (true && true)))) = true
  rw [h]
  rfl

set_option maxRecDepth 100000 in
theorem eqPieces {w : World} {u v : Value} {L : List Out} (hu : PiecesAt w u L) (hv : PiecesAt w v L) (hl : L.length ≤ 10000000) (hr : ∀ q, q ∈ L → q.rows.length ≤ 10000000) :
    Calls Ybaf.prog 9 #[u, v] w fun e' w' => ∃ r, e' = .returned r ∧ (r = .bool true ∧ Fr (fun _ => False) w w') := by
  obtain ⟨a, c, rfl, hcell⟩ := hu.ex
  obtain ⟨a', c', rfl, hcell'⟩ := hv.ex
  refine calls_of Ybaf.func9 rfl rfl ?_
  refine WP.seq ?_
  refine WP.region ?_
  refine RL.val rfl (ex_assign (by conv => lhs; whnf)) ?_
  refine RL.nil ?_
  refine WP.seq ?_
  refine WP.seq ?_
  refine WP.region ?_
  refine RL.val rfl (ex_move (by conv => lhs; whnf)) ?_
  refine RL.val rfl (ex_len (by conv => lhs; whnf) Ybaf.sl28) ?_
  refine RL.val rfl (ex_move (by conv => lhs; whnf)) ?_
  refine RL.val rfl (ex_len (by conv => lhs; whnf) Ybaf.sl28) ?_
  refine RL.val rfl (ex_neq (by conv => lhs; whnf) (by conv => lhs; whnf)) ?_
  refine RL.nil ?_
  refine WP.cond_false (congrArg Value.bool (decide_eq_false (by simp))) ?_
  refine WP.skip ?_
  refine WP.seqc (fun F wr => Fr (fun _ => False) w wr) ?_ ?_
  · refine WP.seq ?_
    refine WP.region ?_
    refine RL.val rfl (ex_move (by conv => lhs; whnf)) ?_
    refine RL.val rfl (ex_len (by conv => lhs; whnf) Ybaf.sl28) ?_
    refine RL.val rfl (ex_move (by conv => lhs; whnf)) ?_
    refine RL.nil ?_
    refine WP.block ?_
    refine WP.loopk (fun m F wr => ∃ i : Nat, m = L.length - i ∧ i ≤ L.length ∧ Has F [(0, .slice a L.length c), (1, .slice a' L.length c'), (14, .int .i64 (L.length : Nat)), (15, .int .i64 (i : Nat))] ∧ Fr (fun _ => False) w wr) L.length ⟨0, rfl, Nat.zero_le _, ⟨rfl, rfl, rfl, rfl, trivial⟩, Fr.refl _⟩ ?_
    rintro m F wr ⟨i, rfl, hi, hF, hfr⟩ K hK
    obtain ⟨G, rfl⟩ := hF.get
    clear hF
    refine WP.seq ?_
    have FRsz := Fr.size hfr
    refine WP.region ?_
    refine RL.val rfl (ex_lss (by conv => lhs; whnf) (by conv => lhs; whnf)) ?_
    refine RL.nil ?_
    refine WP.seq ?_
    refine WP.cond _ (by conv => lhs; whnf) (fun hlt1 => ?_) (fun hlt1 => ?_)
    rotate_left
    · refine WP.exit ?_
      repeat (first | refine thenQ_exit ?_ | refine blockQ_hit ?_ | refine blockQ_miss rfl ?_)
      exact hfr
    have hik : i < L.length := by have := of_decide_eq_true hlt1; omega
    obtain ⟨q, hq⟩ : ∃ q, L[i]? = some q := ⟨_, List.getElem?_eq_getElem hik⟩
    obtain ⟨b, o, rv, rfl, g0, g1, g2, g3, gi⟩ := hcell i q hq
    obtain ⟨b', o', rv', rfl, k0, k1, k2, k3, ki⟩ := hcell' i q hq
    have hA := four_get (hfr.cell g0 id) (hfr.cell g1 id) (hfr.cell g2 id) (hfr.cell g3 id)
    have hB := four_get (hfr.cell k0 id) (hfr.cell k1 id) (hfr.cell k2 id) (hfr.cell k3 id)
    refine WP.skip ?_
    refine WP.seq ?_
    refine WP.block ?_
    refine WP.seq ?_
    refine WP.region ?_
    refine RL.val rfl (ex_move (by conv => lhs; whnf)) ?_
    refine RL.val rfl (ex_assign (by conv => lhs; whnf)) ?_
    refine RL.nil ?_
    refine WP.seqc (fun F w2 => ∃ b6 b7, Has F [(0, .slice (some ⟨b, o, none⟩) L.length c), (1, .slice (some ⟨b', o', none⟩) L.length c'), (6, .pointer (some ⟨b6, 0, none⟩)), (7, .pointer (some ⟨b7, 0, none⟩)), (14, .int .i64 (L.length : Nat)), (15, .int .i64 (i : Nat))] ∧
      w2.heap[b6]? = some (.cells #[.int .i64 (q.ti : Nat), rv, .int .i64 q.start, .int .i64 q.stop] 48 (0, 0)) ∧ w2.heap[b7]? = some (.cells #[.int .i64 (q.ti : Nat), rv', .int .i64 q.start, .int .i64 q.stop] 48 (0, 0)) ∧ Fr (fun _ => False) w w2) ?_ ?_
    · refine WP.draw [] (by kernel_rfl) ?_
      refine AE.take 0 rfl (by kernel_rfl) rfl (fun w' hw => ex_move (by conv => lhs; whnf)) (Ext.drew (Ext.refl _) 1) ?_
      refine AE.take 1 rfl (by kernel_rfl) rfl (fun w' hw => ex_move (by conv => lhs; whnf)) (Ext.drew (Ext.refl _) 1) ?_
      refine AE.take 2 rfl (by kernel_rfl) rfl (fun w' hw => ex_indexAddr (by conv => lhs; whnf) (by conv => lhs; whnf) Ybaf.sl28 Ybaf.sz48 rfl (by omega)) (Ext.drew (Ext.refl _) 1) ?_
      refine AE.take 3 rfl (by kernel_rfl) rfl (fun w' hw => ex_loadA (by conv => lhs; whnf) Ybaf.ag48 rfl (fun j v h => Ext.cell hw (hA j v h))) (Ext.drew (Ext.refl _) 1) ?_
      refine AE.take 4 rfl (by kernel_rfl) rfl (fun w' hw => ex_move (by conv => lhs; whnf)) (Ext.drew (Ext.refl _) 1) ?_
      refine AE.take 5 rfl (by kernel_rfl) rfl (fun w' hw => ex_move (by conv => lhs; whnf)) (Ext.drew (Ext.refl _) 1) ?_
      refine AE.take 6 rfl (by kernel_rfl) rfl (fun w' hw => ex_indexAddr (by conv => lhs; whnf) (by conv => lhs; whnf) Ybaf.sl28 Ybaf.sz48 rfl (by omega)) (Ext.drew (Ext.refl _) 1) ?_
      refine AE.take 7 rfl (by kernel_rfl) rfl (fun w' hw => ex_loadA (by conv => lhs; whnf) Ybaf.ag48 rfl (fun j v h => Ext.cell hw (hB j v h))) (Ext.drew (Ext.refl _) 1) ?_
      refine AE.fork 8 9 (by kernel_rfl) ?_ ?_
      · refine AS.val rfl (by kernel_rfl) rfl (ex_alloc Ybaf.zo48 (by first | (conv => lhs; simp only [sz_al, sz_sr, sz_dn]) | rfl)) (fun _ => Ext.alloc (Ext.drew (Ext.refl _) 1) _) ?_
        refine AE.val 9 rfl (by kernel_rfl) rfl (ex_alloc Ybaf.zo48 (by first | (conv => lhs; simp only [sz_al, sz_sr, sz_dn]) | rfl)) (fun _ => Ext.alloc (Ext.alloc (Ext.drew (Ext.refl _) 1) _) _) ?_
        refine AE.unit 10 rfl (by kernel_rfl) (ex_storeW (by conv => lhs; whnf) (by conv => lhs; whnf) Ybaf.ag48 (al (an' (by simp only [sz_al, sz_dn]))) rfl rfl (all4 gi.one)) (fun _ => Ext.set (Ext.alloc (Ext.alloc (Ext.drew (Ext.refl _) 1) _) _) (by omega)) ?_
        refine AE.unit 11 rfl (by kernel_rfl) (ex_storeW (by conv => lhs; whnf) (by conv => lhs; whnf) Ybaf.ag48 (sr_ne (an' (by simp only [sz_al, sz_dn])) (by first | exact ne_of_type (an' (by simp only [sz_al, sz_dn])) (an' (by simp only [sz_al, sz_dn])) rfl | omega)) rfl rfl (all4 ki.one)) (fun _ => Ext.set (Ext.set (Ext.alloc (Ext.alloc (Ext.drew (Ext.refl _) 1) _) _) (by omega)) (by omega)) ?_
        refine AE.nil (by kernel_rfl) ?_
        exact ⟨_, _, ⟨rfl, rfl, rfl, rfl, rfl, rfl, trivial⟩, (sr_ne (sr_eq (al (an' (by simp only [sz_al, sz_dn])))) (by first | exact ne_of_type (an' (by simp only [sz_al, sz_dn])) (an' (by simp only [sz_al, sz_dn])) rfl | omega)), (sr_eq (sr_ne (an' (by simp only [sz_al, sz_dn])) (by first | exact ne_of_type (an' (by simp only [sz_al, sz_dn])) (an' (by simp only [sz_al, sz_dn])) rfl | omega))), (Fr.set (Fr.set (Fr.alloc (Fr.alloc (Fr.drew hfr 1) _) _) _ _ (fun hh => by first | exact rfl | exact .inl rfl | exact .inr (.inl rfl) | exact .inr (.inr rfl) | ((try simp only [sz_al, sz_sr, sz_dn] at hh); (try simp only [sz_al, sz_sr, sz_dn]); (first | omega | (dsimp only; omega) | exact .inl rfl | exact .inr (.inl rfl))))) _ _ (fun hh => by first | exact rfl | exact .inl rfl | exact .inr (.inl rfl) | exact .inr (.inr rfl) | ((try simp only [sz_al, sz_sr, sz_dn] at hh); (try simp only [sz_al, sz_sr, sz_dn]); (first | omega | (dsimp only; omega) | exact .inl rfl | exact .inr (.inl rfl)))))⟩
      · refine AS.val rfl (by kernel_rfl) rfl (ex_alloc Ybaf.zo48 (by first | (conv => lhs; simp only [sz_al, sz_sr, sz_dn]) | rfl)) (fun _ => Ext.alloc (Ext.drew (Ext.refl _) 1) _) ?_
        refine AE.val 8 rfl (by kernel_rfl) rfl (ex_alloc Ybaf.zo48 (by first | (conv => lhs; simp only [sz_al, sz_sr, sz_dn]) | rfl)) (fun _ => Ext.alloc (Ext.alloc (Ext.drew (Ext.refl _) 1) _) _) ?_
        refine AE.unit 10 rfl (by kernel_rfl) (ex_storeW (by conv => lhs; whnf) (by conv => lhs; whnf) Ybaf.ag48 (an' (by simp only [sz_al, sz_dn])) rfl rfl (all4 gi.one)) (fun _ => Ext.set (Ext.alloc (Ext.alloc (Ext.drew (Ext.refl _) 1) _) _) (by omega)) ?_
        refine AE.unit 11 rfl (by kernel_rfl) (ex_storeW (by conv => lhs; whnf) (by conv => lhs; whnf) Ybaf.ag48 (sr_ne (al (an' (by simp only [sz_al, sz_dn]))) (by first | exact ne_of_type (an' (by simp only [sz_al, sz_dn])) (an' (by simp only [sz_al, sz_dn])) rfl | omega)) rfl rfl (all4 ki.one)) (fun _ => Ext.set (Ext.set (Ext.alloc (Ext.alloc (Ext.drew (Ext.refl _) 1) _) _) (by omega)) (by omega)) ?_
        refine AE.nil (by kernel_rfl) ?_
        exact ⟨_, _, ⟨rfl, rfl, rfl, rfl, rfl, rfl, trivial⟩, (sr_ne (sr_eq (an' (by simp only [sz_al, sz_dn]))) (by first | exact ne_of_type (an' (by simp only [sz_al, sz_dn])) (an' (by simp only [sz_al, sz_dn])) rfl | omega)), (sr_eq (sr_ne (al (an' (by simp only [sz_al, sz_dn]))) (by first | exact ne_of_type (an' (by simp only [sz_al, sz_dn])) (an' (by simp only [sz_al, sz_dn])) rfl | omega))), (Fr.set (Fr.set (Fr.alloc (Fr.alloc (Fr.drew hfr 1) _) _) _ _ (fun hh => by first | exact rfl | exact .inl rfl | exact .inr (.inl rfl) | exact .inr (.inr rfl) | ((try simp only [sz_al, sz_sr, sz_dn] at hh); (try simp only [sz_al, sz_sr, sz_dn]); (first | omega | (dsimp only; omega) | exact .inl rfl | exact .inr (.inl rfl))))) _ _ (fun hh => by first | exact rfl | exact .inl rfl | exact .inr (.inl rfl) | exact .inr (.inr rfl) | ((try simp only [sz_al, sz_sr, sz_dn] at hh); (try simp only [sz_al, sz_sr, sz_dn]); (first | omega | (dsimp only; omega) | exact .inl rfl | exact .inr (.inl rfl)))))⟩
    rintro F w2 ⟨b6, b7, hF, h6, h7, hfr2⟩
    obtain ⟨G, rfl⟩ := hF.get
    clear hF
    have hd1 : decide (((q.ti : Nat) : Int) ≠ ((q.ti : Nat) : Int)) = false := by simp
    have hd2 : decide (q.start ≠ q.start) = false := by simp
    have hd3 : decide (q.stop ≠ q.stop) = false := by simp
    refine WP.seq ?_
    have LT6 := lt_of h6
    have LT7 := lt_of h7
    have FRsz := Fr.size hfr2
    refine WP.region ?_
    refine RL.val rfl (ex_fieldAddr (by conv => lhs; whnf) Ybaf.fo48_0) ?_
    refine RL.val rfl (ex_loadB (by conv => lhs; whnf) Ybaf.sc3 h6 (by conv => lhs; whnf)) ?_
    refine RL.val rfl (ex_fieldAddr (by conv => lhs; whnf) Ybaf.fo48_0) ?_
    refine RL.val rfl (ex_loadB (by conv => lhs; whnf) Ybaf.sc3 h7 (by conv => lhs; whnf)) ?_
    refine RL.val rfl (ex_neq (by conv => lhs; whnf) (by conv => lhs; whnf)) ?_
    refine RL.val rfl (ex_move (by conv => lhs; whnf)) ?_
    refine RL.take (dj := 31) rfl (congrArg Value.bool hd1) ?_
    refine RL.val rfl (ex_fieldAddr (by conv => lhs; whnf) Ybaf.fo48_2) ?_
    refine RL.take (dj := 31) rfl (congrArg Value.bool hd1) ?_
    refine RL.val rfl (ex_loadB (by conv => lhs; whnf) Ybaf.sc2 h6 (by conv => lhs; whnf)) ?_
    refine RL.take (dj := 31) rfl (congrArg Value.bool hd1) ?_
    refine RL.val rfl (ex_fieldAddr (by conv => lhs; whnf) Ybaf.fo48_2) ?_
    refine RL.take (dj := 31) rfl (congrArg Value.bool hd1) ?_
    refine RL.val rfl (ex_loadB (by conv => lhs; whnf) Ybaf.sc2 h7 (by conv => lhs; whnf)) ?_
    refine RL.take (dj := 31) rfl (congrArg Value.bool hd1) ?_
    refine RL.val rfl (ex_neq (by conv => lhs; whnf) (by conv => lhs; whnf)) ?_
    refine RL.val rfl (ex_pick_f (congrArg Value.bool hd1) (by conv => lhs; whnf)) ?_
    refine RL.val rfl (ex_move (by conv => lhs; whnf)) ?_
    refine RL.take (dj := 38) rfl (congrArg Value.bool hd2) ?_
    refine RL.val rfl (ex_fieldAddr (by conv => lhs; whnf) Ybaf.fo48_3) ?_
    refine RL.take (dj := 38) rfl (congrArg Value.bool hd2) ?_
    refine RL.val rfl (ex_loadB (by conv => lhs; whnf) Ybaf.sc2 h6 (by conv => lhs; whnf)) ?_
    refine RL.take (dj := 38) rfl (congrArg Value.bool hd2) ?_
    refine RL.val rfl (ex_fieldAddr (by conv => lhs; whnf) Ybaf.fo48_3) ?_
    refine RL.take (dj := 38) rfl (congrArg Value.bool hd2) ?_
    refine RL.val rfl (ex_loadB (by conv => lhs; whnf) Ybaf.sc2 h7 (by conv => lhs; whnf)) ?_
    refine RL.take (dj := 38) rfl (congrArg Value.bool hd2) ?_
    refine RL.val rfl (ex_neq (by conv => lhs; whnf) (by conv => lhs; whnf)) ?_
    refine RL.val rfl (ex_pick_f (congrArg Value.bool hd2) (by conv => lhs; whnf)) ?_
    refine RL.val rfl (ex_move (by conv => lhs; whnf)) ?_
    refine RL.take (dj := 45) rfl (congrArg Value.bool hd3) ?_
    refine RL.val rfl (ex_fieldAddr (by conv => lhs; whnf) Ybaf.fo48_1) ?_
    refine RL.take (dj := 45) rfl (congrArg Value.bool hd3) ?_
    refine RL.val rfl (ex_loadB (by conv => lhs; whnf) Ybaf.sc46 h6 (by conv => lhs; whnf)) ?_
    refine RL.take (dj := 45) rfl (congrArg Value.bool hd3) ?_
    refine RL.val rfl (ex_fieldAddr (by conv => lhs; whnf) Ybaf.fo48_1) ?_
    refine RL.take (dj := 45) rfl (congrArg Value.bool hd3) ?_
    refine RL.val rfl (ex_loadB (by conv => lhs; whnf) Ybaf.sc46 h7 (by conv => lhs; whnf)) ?_
    refine RL.take (dj := 45) rfl (congrArg Value.bool hd3) ?_
    refine RL.call rfl (ex_call2 rfl (by conv => lhs; whnf) (by conv => lhs; whnf) Ybaf.fun17) (equalInts (gi.keep hfr2) (ki.keep hfr2) (by have := hr q (List.mem_of_getElem? hq); simp [ints]; omega)) ?_
    rintro v w3 ⟨rfl, hf3⟩
    refine RL.take (dj := 45) rfl (congrArg Value.bool hd3) ?_
    refine RL.val rfl (ex_not (by conv => lhs; whnf)) ?_
    refine RL.val rfl (ex_pick_f (congrArg Value.bool hd3) (by conv => lhs; whnf)) ?_
    refine RL.nil ?_
    refine WP.cond_false rfl ?_
    refine WP.skip ?_
    refine WP.region ?_
    refine RL.val rfl (ex_add (c := ((i + 1 : Nat) : Int)) (by conv => lhs; whnf) (by conv => lhs; whnf) (by rw [IntKind.wrap_i64]; omega)) ?_
    refine RL.val rfl (ex_move (by conv => lhs; whnf)) ?_
    refine RL.nil ?_
    exact hK (L.length - (i + 1)) _ _ (by omega) ⟨i + 1, rfl, by omega, ⟨rfl, rfl, rfl, rfl, trivial⟩, (Fr.trans hfr2 hf3 (fun _ _ h => h))⟩
  rintro F wr hfr
  refine WP.seq ?_
  refine WP.region ?_
  refine RL.val rfl (ex_assign (by conv => lhs; whnf)) ?_
  refine RL.nil ?_
  refine WP.ret ?_
  repeat (first | refine thenQ_ret ?_ | refine blockQ_ret ?_)
  exact bodyQ_tmp rfl ⟨rfl, hfr⟩
end Go.Proofs.YbulknocFmt
