/- The closure 'do' by its contract. -/
import Derived.Test.YbulknkwData
namespace Go.Proofs.Ybulknkw
open Go Go.Eng Go.RowKit
set_option linter.unusedSimpArgs false
set_option linter.unusedVariables false

theorem fail_of {fails : List Bool} {k : Nat} {b : Bool} (h : fails[k]? = some b) : fail fails k = b := by simp [fail, h]
theorem fail_past {fails : List Bool} {k : Nat} (h : fails.length ≤ k) : fail fails k = false := by simp [fail, List.getElem?_eq_none h]

set_option maxRecDepth 100000 in
theorem do_any {w : World} {B bk bf bs : Nat} {fa : Option Addr} {fc : Nat} {fails : List Bool} {k : Nat} {sn : List ByteArray} {c0 c1 c2 c3 c5 c6 c7 c8 c9 : Value} {tm : ByteArray}
    (h : DoSt w B bk bf bs fa fc fails k sn) (hk : k ≤ 100000) (hfl : fails.length ≤ 100000) (hsn : sn.length ≤ 100000) (hB : B ≤ w.heap.size) :
    Calls Yba.prog 4 #[.agg #[c0, c1, c2, c3, .string tm, c5, c6, c7, c8, c9], .pointer (some ⟨bk, 0, none⟩), .pointer (some ⟨bf, 0, none⟩), .pointer (some ⟨bs, 0, none⟩)] w fun e w' => ∃ v, e = .returned v ∧
      (∃ ep, v = .agg (cmdCells (tm, ep)).toArray ∧ ep.isSome = fail fails k ∧ (∀ a, ep = some a → ∃ g, a = ⟨g, 0, none⟩ ∧ w.heap.size ≤ g ∧ w'.heap[g]? = some (.cells #[.int .i64 (k : Nat), .string ⟨#[]⟩] 31 (0, 0))) ∧
        DoSt w' B bk bf bs fa fc fails (k + 1) (sn ++ [tm]) ∧ Fr (SD B bk bs w) w w') := by
  obtain ⟨hk1, hf1, ⟨sv, hs1, hown⟩, hfa, hlk, hls⟩ := h
  have hfr0 : Fr (fun _ => False) w w := Fr.refl w
  refine calls_of Yba.func4 rfl rfl ?_
  refine WP.seq ?_
  have LT1 := lt_of hk1
  have LT2 := lt_of hf1
  have LT3 := lt_of hs1
  have FRsz := Fr.size hfr0
  refine WP.region ?_
  refine RL.val rfl (ex_box (by conv => lhs; whnf) (by first | (conv => lhs; simp only [sz_al, sz_sr, sz_dn]) | rfl)) ?_
  refine RL.val rfl (ex_alloc Yba.zo47 (by first | (conv => lhs; simp only [sz_al, sz_sr, sz_dn]) | rfl)) ?_
  refine RL.nil ?_
  refine WP.seq ?_
  refine WP.region ?_
  refine RL.val rfl (ex_fieldAddr (by conv => lhs; whnf) Yba.fo47_3) ?_
  refine RL.val rfl (ex_loadB (by conv => lhs; whnf) Yba.sc9 (al (an' (by first | (simp only [sz_al, sz_sr, sz_dn]; done) | rfl | omega | (simp only [sz_al, sz_sr, sz_dn]; omega)))) (by conv => lhs; whnf)) ?_
  refine RL.val rfl (Yba.bl47_3_1 (by conv => lhs; whnf) rfl (by conv => lhs; whnf) rfl) ?_
  refine RL.val rfl (ex_alloc Yba.zo47 (by first | (conv => lhs; simp only [sz_al, sz_sr, sz_dn]) | rfl)) ?_
  refine RL.unit (ex_storeW (by conv => lhs; whnf) (by conv => lhs; whnf) Yba.ag47 (an' (by first | (simp only [sz_al, sz_sr, sz_dn]; done) | rfl | omega | (simp only [sz_al, sz_sr, sz_dn]; omega))) (by rfl) (by rfl) (by rfl)) ?_
  refine RL.nil ?_
  refine WP.seqc (fun F wr => ∃ ep, ep.isSome = fail fails k ∧ (∀ a, ep = some a → a = ⟨w.heap.size + 3, 0, none⟩ ∧ wr.heap[w.heap.size + 3]? = some (.cells #[.int .i64 (k : Nat), .string ⟨#[]⟩] 31 (0, 0))) ∧
    Has F [(1, .pointer (some ⟨bk, 0, none⟩)), (3, .pointer (some ⟨bs, 0, none⟩)), (4, .pointer (some ⟨w.heap.size, 0, none⟩)), (5, .pointer (some ⟨w.heap.size + 1, 0, none⟩)), (6, .pointer (some ⟨w.heap.size + 2, 0, none⟩))] ∧
    wr.heap[w.heap.size]? = some (.cells #[c0, c1, c2, c3, .string tm, c5, c6, c7, c8, c9] 47 (0, 0)) ∧
    (∃ z : Array Value, z.size = 10 ∧ wr.heap[w.heap.size + 1]? = some (.cells z 47 (0, 0))) ∧
    wr.heap[w.heap.size + 2]? = some (.cells (cmdCells (tm, ep)).toArray 47 (0, 0)) ∧
    Fr (fun _ => False) w wr) ?_ ?_
  · refine WP.seq ?_
    by_cases hlt : k < fails.length
    · obtain ⟨b, hb⟩ : ∃ b, fails[k]? = some b := ⟨_, List.getElem?_eq_getElem hlt⟩
      obtain ⟨bb, oo, rfl, _, hcell⟩ := hfa.at_ k b hb
      have hd : decide ((k : Int) < (fails.length : Int)) = true := decide_eq_true (by omega)
      refine WP.region ?_
      refine RL.val rfl (ex_loadB (by conv => lhs; whnf) Yba.sc3 (sr_ne (al (al (al hk1))) (by (try simp only [sz_al, sz_sr, sz_dn]); omega)) (by conv => lhs; whnf)) ?_
      refine RL.val rfl (ex_loadB (by conv => lhs; whnf) Yba.sc24 (sr_ne (al (al (al hf1))) (by (try simp only [sz_al, sz_sr, sz_dn]); omega)) (by conv => lhs; whnf)) ?_
      refine RL.val rfl (ex_len (by conv => lhs; whnf) Yba.sl24) ?_
      refine RL.val rfl (ex_lss (by conv => lhs; whnf) (by conv => lhs; whnf)) ?_
      refine RL.val rfl (ex_move (by conv => lhs; whnf)) ?_
      refine RL.take (dj := 14) rfl (congrArg Value.bool hd) ?_
      refine RL.val rfl (ex_loadB (by conv => lhs; whnf) Yba.sc24 (sr_ne (al (al (al hf1))) (by (try simp only [sz_al, sz_sr, sz_dn]); omega)) (by conv => lhs; whnf)) ?_
      refine RL.take (dj := 14) rfl (congrArg Value.bool hd) ?_
      refine RL.val rfl (ex_loadB (by conv => lhs; whnf) Yba.sc3 (sr_ne (al (al (al hk1))) (by (try simp only [sz_al, sz_sr, sz_dn]); omega)) (by conv => lhs; whnf)) ?_
      refine RL.take (dj := 14) rfl (congrArg Value.bool hd) ?_
      refine RL.val rfl (ex_ixa (by conv => lhs; whnf) (by conv => lhs; whnf) Yba.sl24 Yba.sz4 rfl (by omega)) ?_
      refine RL.take (dj := 14) rfl (congrArg Value.bool hd) ?_
      refine RL.val rfl (ex_load (by conv => lhs; whnf) Yba.sc4 (Fr.cell (Fr.set (Fr.alloc (Fr.alloc (Fr.alloc hfr0 _) _) _) _ _ (fun hh => by (try simp only [sz_al, sz_sr, sz_dn] at hh); (try simp only [sz_al, sz_sr, sz_dn]); (first | omega | (dsimp only; omega) | exact .inl rfl | exact .inr (.inl rfl)))) hcell id)) ?_
      refine RL.val rfl (ex_pick_t (congrArg Value.bool hd) (by conv => lhs; whnf)) ?_
      refine RL.nil ?_
      refine WP.cond b rfl (fun hb1 => ?_) (fun hb1 => ?_)
      · subst hb1
        refine WP.region ?_
        refine RL.val rfl (ex_loadB (by conv => lhs; whnf) Yba.sc3 (sr_ne (al (al (al hk1))) (by (try simp only [sz_al, sz_sr, sz_dn]); omega)) (by conv => lhs; whnf)) ?_
        refine RL.val rfl (Yba.bl31_0 (by conv => lhs; whnf) rfl) ?_
        refine RL.val rfl (ex_box (by conv => lhs; whnf) (by first | (conv => lhs; simp only [sz_al, sz_sr, sz_dn]) | rfl)) ?_
        refine RL.val rfl (ex_fieldAddr (by conv => lhs; whnf) Yba.fo47_5) ?_
        refine RL.unit (ex_store (by conv => lhs; whnf) (by conv => lhs; whnf) Yba.sc29 rfl (al (sr_eq (an' (by first | (simp only [sz_al, sz_sr, sz_dn]; done) | rfl | omega | (simp only [sz_al, sz_sr, sz_dn]; omega))))) rfl) ?_
        refine RL.nil ?_
        exact ⟨some ⟨w.heap.size + 3, 0, none⟩, by rw [fail_of hb]; rfl, fun a ha => ⟨(Option.some.inj ha).symm, (sr_ne (an' (by first | (simp only [sz_al, sz_sr, sz_dn]; done) | rfl | omega | (simp only [sz_al, sz_sr, sz_dn]; omega))) (by (try simp only [sz_al, sz_sr, sz_dn]); omega))⟩, ⟨rfl, rfl, rfl, rfl, rfl, trivial⟩, (sr_ne (al (sr_ne (al (al (an' (by first | (simp only [sz_al, sz_sr, sz_dn]; done) | rfl | omega | (simp only [sz_al, sz_sr, sz_dn]; omega))))) (by (try simp only [sz_al, sz_sr, sz_dn]); omega))) (by (try simp only [sz_al, sz_sr, sz_dn]); omega)), ⟨_, rfl, (sr_ne (al (sr_ne (al (an' (by first | (simp only [sz_al, sz_sr, sz_dn]; done) | rfl | omega | (simp only [sz_al, sz_sr, sz_dn]; omega)))) (by (try simp only [sz_al, sz_sr, sz_dn]); omega))) (by (try simp only [sz_al, sz_sr, sz_dn]); omega))⟩, (sr_eq (al (sr_eq (an' (by first | (simp only [sz_al, sz_sr, sz_dn]; done) | rfl | omega | (simp only [sz_al, sz_sr, sz_dn]; omega)))))), (Fr.set (Fr.alloc (Fr.set (Fr.alloc (Fr.alloc (Fr.alloc hfr0 _) _) _) _ _ (fun hh => by (try simp only [sz_al, sz_sr, sz_dn] at hh); (try simp only [sz_al, sz_sr, sz_dn]); (first | omega | (dsimp only; omega) | exact .inl rfl | exact .inr (.inl rfl)))) _) _ _ (fun hh => by (try simp only [sz_al, sz_sr, sz_dn] at hh); (try simp only [sz_al, sz_sr, sz_dn]); (first | omega | (dsimp only; omega) | exact .inl rfl | exact .inr (.inl rfl))))⟩
      · subst hb1
        refine WP.skip ?_
        exact ⟨none, by rw [fail_of hb]; rfl, fun a ha => (by cases ha), ⟨rfl, rfl, rfl, rfl, rfl, trivial⟩, (sr_ne (al (al (an' (by first | (simp only [sz_al, sz_sr, sz_dn]; done) | rfl | omega | (simp only [sz_al, sz_sr, sz_dn]; omega))))) (by (try simp only [sz_al, sz_sr, sz_dn]); omega)), ⟨_, rfl, (sr_ne (al (an' (by first | (simp only [sz_al, sz_sr, sz_dn]; done) | rfl | omega | (simp only [sz_al, sz_sr, sz_dn]; omega)))) (by (try simp only [sz_al, sz_sr, sz_dn]); omega))⟩, (sr_eq (an' (by first | (simp only [sz_al, sz_sr, sz_dn]; done) | rfl | omega | (simp only [sz_al, sz_sr, sz_dn]; omega)))), (Fr.set (Fr.alloc (Fr.alloc (Fr.alloc hfr0 _) _) _) _ _ (fun hh => by (try simp only [sz_al, sz_sr, sz_dn] at hh); (try simp only [sz_al, sz_sr, sz_dn]); (first | omega | (dsimp only; omega) | exact .inl rfl | exact .inr (.inl rfl))))⟩
    · have hd : decide ((k : Int) < (fails.length : Int)) = false := decide_eq_false (by omega)
      refine WP.region ?_
      refine RL.val rfl (ex_loadB (by conv => lhs; whnf) Yba.sc3 (sr_ne (al (al (al hk1))) (by (try simp only [sz_al, sz_sr, sz_dn]); omega)) (by conv => lhs; whnf)) ?_
      refine RL.val rfl (ex_loadB (by conv => lhs; whnf) Yba.sc24 (sr_ne (al (al (al hf1))) (by (try simp only [sz_al, sz_sr, sz_dn]); omega)) (by conv => lhs; whnf)) ?_
      refine RL.val rfl (ex_len (by conv => lhs; whnf) Yba.sl24) ?_
      refine RL.val rfl (ex_lss (by conv => lhs; whnf) (by conv => lhs; whnf)) ?_
      refine RL.val rfl (ex_move (by conv => lhs; whnf)) ?_
      refine RL.skip (dj := 14) (b := false) rfl rfl (congrArg Value.bool hd) rfl ?_
      refine RL.skip (dj := 14) (b := false) rfl rfl (congrArg Value.bool hd) rfl ?_
      refine RL.skip (dj := 14) (b := false) rfl rfl (congrArg Value.bool hd) rfl ?_
      refine RL.skip (dj := 14) (b := false) rfl rfl (congrArg Value.bool hd) rfl ?_
      refine RL.val rfl (ex_pick_f (congrArg Value.bool hd) (by conv => lhs; whnf)) ?_
      refine RL.nil ?_
      refine WP.cond_false rfl ?_
      refine WP.skip ?_
      exact ⟨none, by rw [fail_past (by omega)]; rfl, fun a ha => (by cases ha), ⟨rfl, rfl, rfl, rfl, rfl, trivial⟩, (sr_ne (al (al (an' (by first | (simp only [sz_al, sz_sr, sz_dn]; done) | rfl | omega | (simp only [sz_al, sz_sr, sz_dn]; omega))))) (by (try simp only [sz_al, sz_sr, sz_dn]); omega)), ⟨_, rfl, (sr_ne (al (an' (by first | (simp only [sz_al, sz_sr, sz_dn]; done) | rfl | omega | (simp only [sz_al, sz_sr, sz_dn]; omega)))) (by (try simp only [sz_al, sz_sr, sz_dn]); omega))⟩, (sr_eq (an' (by first | (simp only [sz_al, sz_sr, sz_dn]; done) | rfl | omega | (simp only [sz_al, sz_sr, sz_dn]; omega)))), (Fr.set (Fr.alloc (Fr.alloc (Fr.alloc hfr0 _) _) _) _ _ (fun hh => by (try simp only [sz_al, sz_sr, sz_dn] at hh); (try simp only [sz_al, sz_sr, sz_dn]); (first | omega | (dsimp only; omega) | exact .inl rfl | exact .inr (.inl rfl))))⟩
  · rintro F wr ⟨ep, hep, hepa, hF, h4, ⟨z, hz, h5⟩, h6, hfr⟩
    obtain ⟨G, rfl⟩ := hF.get
    clear hF
    have hk2 := hfr.keep hk1 id
    have hs2 := hfr.keep hs1 id
    have hf2 := hfr.keep hf1 id
    have hown2 := hfr.own hown (fun _ _ => id)
    have hsz := hfr.size
    have hfrS : Fr (SD B bk bs w) w wr := Fr.pureSD hfr
    refine WP.seq ?_
    have LT1 := lt_of hk2
    have LT2 := lt_of hf2
    have LT3 := lt_of hs2
    have LT4 := lt_of h4
    have LT5 := lt_of h5
    have LT6 := lt_of h6
    have FRsz := Fr.size hfrS
    refine WP.region ?_
    refine RL.val rfl (ex_loadB (by conv => lhs; whnf) Yba.sc25 hs2 (by conv => lhs; whnf)) ?_
    refine RL.val rfl (ex_fieldAddr (by conv => lhs; whnf) Yba.fo47_3) ?_
    refine RL.val rfl (ex_loadB (by conv => lhs; whnf) Yba.sc9 h4 (by conv => lhs; whnf)) ?_
    refine RL.val rfl (ex_buildSlice1 (by conv => lhs; whnf) Yba.sl25 Yba.sz9 Yba.zo9 rfl rfl rfl (by first | (conv => lhs; simp only [sz_al, sz_sr, sz_dn]) | rfl)) ?_
    refine RL.append1 B rfl Yba.sl25 Yba.in9 rfl rfl rfl (by conv => lhs; whnf) (by conv => lhs; whnf) (hown2.alloc _) (an' (by first | (simp only [sz_al, sz_sr, sz_dn]; done) | rfl | omega | (simp only [sz_al, sz_sr, sz_dn]; omega))) (by rfl) (by rfl) (by omega) (by rw [sz_al]; omega) ?_
    intro sv' w1 hown3 hgr hsv
    obtain ⟨sg, scap, rfl⟩ := hsv
    have hsl := hown2.lt
    have hown2a := hown2.alloc (.cells (Value.string tm).cells 9)
    have hrow : ∀ kk, sv.ownBlock = some kk → kk < w.heap.size → SD B bk bs w kk := fun kk hkk _ => .inr (.inr ⟨(hsl kk hkk).1, by
      rcases hown.2 with ⟨h0, _⟩ | ⟨g0, _, cur0, h0, _, hg0, _⟩
      · rw [h0] at hkk; cases hkk
      · rw [h0] at hkk; cases hkk; exact ⟨_, _, hg0⟩⟩)
    refine RL.unit (ex_store (by conv => lhs; whnf) (by conv => lhs; whnf) Yba.sc25 rfl (gk hgr (own_ne hown2a (al hs2) rfl) (al hs2)) rfl) ?_
    refine RL.nil ?_
    refine WP.seq ?_
    refine WP.region ?_
    refine RL.val rfl (ex_loadB (by conv => lhs; whnf) Yba.sc3 (sr_ne (gk hgr (own_ne hown2a (al hk2) rfl) (al hk2)) (by first | exact ne_of_type hk2 hs2 rfl | omega)) (by conv => lhs; whnf)) ?_
    refine RL.val rfl (ex_add (by conv => lhs; whnf) (by conv => lhs; whnf) (wrap_i64 (by omega) (by omega))) ?_
    refine RL.unit (ex_store (by conv => lhs; whnf) (by conv => lhs; whnf) Yba.sc3 rfl (sr_ne (gk hgr (own_ne hown2a (al hk2) rfl) (al hk2)) (by first | exact ne_of_type hk2 hs2 rfl | omega)) rfl) ?_
    refine RL.nil ?_
    refine WP.seq ?_
    refine WP.region ?_
    refine RL.val rfl (ex_loadW (by conv => lhs; whnf) (sr_ne (sr_ne (gk hgr (own_ne hown2a (al h6) rfl) (al h6)) (by first | exact ne_of_type h6 hs2 rfl | omega)) (by first | exact ne_of_type h6 hk2 rfl | omega)) Yba.ag47 (by rfl)) ?_
    refine RL.unit (ex_storeW (by conv => lhs; whnf) (by conv => lhs; whnf) Yba.ag47 (sr_ne (sr_ne (gk hgr (own_ne hown2a (al h5) rfl) (al h5)) (by first | exact ne_of_type h5 hs2 rfl | omega)) (by first | exact ne_of_type h5 hk2 rfl | omega)) hz (by rfl) (by rfl)) ?_
    refine RL.nil ?_
    refine WP.ret ?_
    repeat (first | refine thenQ_ret ?_ | refine blockQ_ret ?_)
    refine bodyQ_cell rfl rfl (sr_eq (sr_ne (sr_ne (gk hgr (own_ne hown2a (al h5) rfl) (al h5)) (by first | exact ne_of_type h5 hs2 rfl | omega)) (by first | exact ne_of_type h5 hk2 rfl | omega))) Yba.ag47 (by rfl) ?_
    refine ⟨ep, rfl, hep, ?_, ⟨?_, ?_, ⟨.slice (some ⟨sg, 0, none⟩) (sn.length + 1) scap, ?_, ?_⟩, hfa.keep hlk hls (Fr.set (Fr.set (Fr.set (Fr.grown (Fr.alloc hfrS _) hgr hrow) _ _ (fun hh => by (try simp only [sz_al, sz_sr, sz_dn] at hh); (try simp only [sz_al, sz_sr, sz_dn]); (first | omega | (dsimp only; omega) | exact .inl rfl | exact .inr (.inl rfl)))) _ _ (fun hh => by (try simp only [sz_al, sz_sr, sz_dn] at hh); (try simp only [sz_al, sz_sr, sz_dn]); (first | omega | (dsimp only; omega) | exact .inl rfl | exact .inr (.inl rfl)))) _ _ (fun hh => by (try simp only [sz_al, sz_sr, sz_dn] at hh); (try simp only [sz_al, sz_sr, sz_dn]); (first | omega | (dsimp only; omega) | exact .inl rfl | exact .inr (.inl rfl)))), hlk, hls⟩, (Fr.set (Fr.set (Fr.set (Fr.grown (Fr.alloc hfrS _) hgr hrow) _ _ (fun hh => by (try simp only [sz_al, sz_sr, sz_dn] at hh); (try simp only [sz_al, sz_sr, sz_dn]); (first | omega | (dsimp only; omega) | exact .inl rfl | exact .inr (.inl rfl)))) _ _ (fun hh => by (try simp only [sz_al, sz_sr, sz_dn] at hh); (try simp only [sz_al, sz_sr, sz_dn]); (first | omega | (dsimp only; omega) | exact .inl rfl | exact .inr (.inl rfl)))) _ _ (fun hh => by (try simp only [sz_al, sz_sr, sz_dn] at hh); (try simp only [sz_al, sz_sr, sz_dn]); (first | omega | (dsimp only; omega) | exact .inl rfl | exact .inr (.inl rfl))))⟩
    · intro a ha
      obtain ⟨rfl, hg3⟩ := hepa a ha
      have hg4 : w1.heap[w.heap.size + 3]? = _ := gk hgr (own_ne hown2a (al hg3) rfl) (al hg3)
      exact ⟨_, rfl, by omega, sr_ne (sr_ne (sr_ne hg4 (by omega)) (by omega)) (by omega)⟩
    · exact (sr_ne (sr_eq (sr_ne (gk hgr (own_ne hown2a (al hk2) rfl) (al hk2)) (by first | exact ne_of_type hk2 hs2 rfl | omega))) (by first | exact ne_of_type hk2 h5 rfl | omega))
    · exact (sr_ne (sr_ne (sr_ne (gk hgr (own_ne hown2a (al hf2) rfl) (al hf2)) (by first | exact ne_of_type hf2 hs2 rfl | omega)) (by first | exact ne_of_type hf2 hk2 rfl | omega)) (by first | exact ne_of_type hf2 h5 rfl | omega))
    · exact (sr_ne (sr_ne (sr_eq (gk hgr (own_ne hown2a (al hs2) rfl) (al hs2))) (by first | exact ne_of_type hs2 hk2 rfl | omega)) (by first | exact ne_of_type hs2 h5 rfl | omega))
    · have e1 : (sn ++ [tm]).flatMap strCells = sn.flatMap strCells ++ (Value.string tm).cells.toList := by simp [strCells, Value.cells]
      rw [e1, List.length_append]
      have q3 : w1.heap[bs]? = some (.cells #[sv] 25 (0, 0)) := gk hgr (own_ne hown2a (al hs2) rfl) (al hs2)
      have q1 : w1.heap[bk]? = some (.cells #[.int .i64 (k : Nat)] 3 (0, 0)) := gk hgr (own_ne hown2a (al hk2) rfl) (al hk2)
      have q5 : w1.heap[w.heap.size + 1]? = some (.cells z 47 (0, 0)) := gk hgr (own_ne hown2a (al h5) rfl) (al h5)
      exact own_sr (own_sr (own_sr hown3 (own_ne hown3 q3 rfl)) (own_ne hown3 q1 rfl)) (own_ne hown3 q5 rfl)

/-- The same, with what it leaves alone. -/
theorem do_any2 {w : World} {B bk bf bs : Nat} {fa : Option Addr} {fc : Nat} {fails : List Bool} {k : Nat} {sn : List ByteArray} {c0 c1 c2 c3 c5 c6 c7 c8 c9 : Value} {tm : ByteArray}
    (h : DoSt w B bk bf bs fa fc fails k sn) (hk : k ≤ 100000) (hfl : fails.length ≤ 100000) (hsn : sn.length ≤ 100000) (hB : B ≤ w.heap.size) :
    Calls Yba.prog 4 #[.agg #[c0, c1, c2, c3, .string tm, c5, c6, c7, c8, c9], .pointer (some ⟨bk, 0, none⟩), .pointer (some ⟨bf, 0, none⟩), .pointer (some ⟨bs, 0, none⟩)] w fun e w' => ∃ v, e = .returned v ∧
      (∃ ep, v = .agg (cmdCells (tm, ep)).toArray ∧ ep.isSome = fail fails k ∧ (∀ a, ep = some a → ∃ g, a = ⟨g, 0, none⟩ ∧ w.heap.size ≤ g ∧ w'.heap[g]? = some (.cells #[.int .i64 (k : Nat), .string ⟨#[]⟩] 31 (0, 0))) ∧
        DoSt w' B bk bf bs fa fc fails (k + 1) (sn ++ [tm]) ∧ KeepsO w w' ∧ Fr (SD B bk bs w) w w') :=
  (do_any h hk hfl hsn hB).mono fun e w' ⟨v, he, ep, h1, h2, h3, h4, h5⟩ => ⟨v, he, ep, h1, h2, h3, h4, keepsO h h5, h5⟩
end Go.Proofs.Ybulknkw
