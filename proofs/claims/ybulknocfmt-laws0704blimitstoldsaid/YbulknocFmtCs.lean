/- cutSource. -/
import Derived.Test.YbulknocFmtCsA
namespace Go.Proofs.YbulknocFmt
open Go Go.Eng Go.RowKit
set_option linter.unusedSimpArgs false
set_option linter.unusedVariables false

def winCells (x : Win) (s : Int) : List Value := [.int .i64 s, .int .i64 (s + x.p)]
def idsOf (W : List Int) (L : List (Nat × Int)) : List Value := L.map fun q => Value.int .i64 ((W.idxOf q.2 : Nat) : Int)
def szv (l : List Nat) : List Value := l.map fun n => Value.int .i64 ((n : Nat) : Int)
structure L1v (w4 : World) (n0 : Nat) (x : Win) (PL : List (Nat × Int)) (most k : Nat) (wv sv iv : Value) (W : World) : Prop where
  fr : Fr (fun k => n0 + 6 ≤ k ∧ k ≤ n0 + 10 ∧ k ≠ n0 + 7) w4 W
  map : MapW x W (n0 + 6) (wsOf (PL.take k))
  le : (wsOf (PL.take k)).length ≤ most
  h14 : W.heap[n0 + 8]? = some (.cells #[wv] 87 (0, 0))
  h15 : W.heap[n0 + 9]? = some (.cells #[sv] 46 (0, 0))
  h16 : W.heap[n0 + 10]? = some (.cells #[iv] 46 (0, 0))
  ow : W.ownsRow (n0 + 16) 92 2 wv (wsOf (PL.take k)).length ((wsOf (PL.take k)).flatMap (winCells x))
  os : W.ownsRow (n0 + 16) 3 1 sv (wsOf (PL.take k)).length (szv (sizes (PL.take k)))
  oi : W.ownsRow (n0 + 16) 3 1 iv k (idsOf (wsOf PL) (PL.take k))
  ne : sv.ownBlock = none ∨ sv.ownBlock ≠ iv.ownBlock
theorem L1v.its {w4 : World} {n0 : Nat} {x : Win} {PL : List (Nat × Int)} {most k : Nat} {wv sv iv : Value} {W W' : World} (h : L1v w4 n0 x PL most k wv sv iv W) (i : ItS (n0 + 16) W W') (hs : w4.heap.size = n0 + 16) : L1v w4 n0 x PL most k wv sv iv W' :=
  ⟨i.fr h.fr (by omega), ⟨let ⟨es, c, h1, h2⟩ := h.map.ex; ⟨es, c, i.below h1 (by omega), h2⟩⟩, h.le, i.cells h.h14, i.cells h.h15, i.cells h.h16, i.own h.ow, i.own h.os, i.own h.oi, h.ne⟩

/-- A piece that was made. -/
def outCells (q : Out × Value) : List Value := [.int .i64 (q.1.ti : Nat), q.2, .int .i64 q.1.start, .int .i64 q.1.stop]
structure RowsIn (cR : Array Value) (bR used : Nat) (q : Out × Value) : Prop where
  ex : ∃ o, q.2 = .slice (some ⟨bR, o, none⟩) q.1.rows.length q.1.rows.length ∧ o + q.1.rows.length ≤ used ∧ ∀ (j r : Nat), q.1.rows[j]? = some r → cR[o + j]? = some (.int .i64 ((r : Nat) : Int))
theorem RowsIn.mono {cR cR' : Array Value} {bR used used' : Nat} {q : Out × Value} (h : RowsIn cR bR used q) (hu : used ≤ used') (hc : ∀ j, j < used → cR'[j]? = cR[j]?) : RowsIn cR' bR used' q := by
  obtain ⟨o, h1, h2, h3⟩ := h.ex
  refine ⟨o, h1, by omega, fun j r hr => ?_⟩
  have := (List.getElem?_eq_some_iff.1 hr).1
  rw [hc _ (by omega)]
  exact h3 j r hr
def outW (x : Win) (p : Pc) (L : List (Nat × Int)) (s : Int) : Out := ⟨p.ti, grp L s, min (max s p.start) p.stop, min (max (s + x.p) p.start) p.stop⟩
def outOf (x : Win) (p : Pc) (L : List (Nat × Int)) : List Out := (wsOf L).map (outW x p L)
/-- What a source's pieces are once they stand in x. -/
structure CutTo (w' : World) (bX bR Bx n : Nat) (tv : Value) (read : Int) (cap used used' : Nat) (c0 : Array Value) (xs : List Value) (O : List Out) : Prop where
  ex : ∃ (pv : Value) (cR : Array Value) (pr : List (Out × Value)), w'.heap[bX]? = some (.cells #[tv, .int .i64 read, pv] 42 (0, 0)) ∧ w'.heap[bR]? = some (.cells cR 3 (0, 0)) ∧ cR.size = cap ∧ (∀ j, j < used → cR[j]? = c0[j]?) ∧
    w'.ownsRow Bx 48 4 pv (n + pr.length) (xs ++ pr.flatMap outCells) ∧ pr.map (·.1) = O ∧ ∀ q, q ∈ pr → RowsIn cR bR used' q

theorem Ybaf.in92' : (Ybaf.prog.info? 92).map (fun i => (i.zero, i.size, i.bytes)) = some (some (.agg #[.int .i64 0, .int .i64 0]), 2, 16) := by kernel_rfl

set_option maxRecDepth 100000 in
set_option maxHeartbeats 4000000 in
theorem cutSource {w : World} {B : Nat} {T : List Tab} {t : Tab} {p : Pc} {rv tv pv : Value} {x : Win} {bX bR used cap most Bx n : Nat} {read : Int} {c0 : Array Value} {xs : List Value} {PL : List (Nat × Int)} (hti : T[p.ti]? = some t) (hok : t.Ok) (hx : x.Ok) (hlen : (rowsOf T p).length ≤ 100000) (hrs : ∀ r, r ∈ rowsOf T p → r < t.vals.length)
    (hPL : PL = plOf x t (rowsOf T p)) (hPLn : PL.length ≤ 10000000) (hB : B ≤ w.heap.size) (ht : TabsAt w B tv T) (hr : RowsV w B rv p.rows) (hX : w.heap[bX]? = some (.cells #[tv, .int .i64 read, pv] 42 (0, 0))) (hR : w.heap[bR]? = some (.cells c0 3 (0, 0))) (hcs : c0.size = cap) (hfit : used + PL.length ≤ cap) (hcap : cap ≤ 100000000)
    (hown : w.ownsRow Bx 48 4 pv n xs) (hn : n ≤ 100000000) (hBR : B ≤ bR) (hBX : B ≤ bX) (hBx : B ≤ Bx) (hBxl : Bx ≤ w.heap.size) (hmost : most ≤ 9223372036854775807) :
    Calls Ybaf.prog 16 #[.pointer (some ⟨bX, 0, none⟩), .agg (pcRow p rv), .agg (winRow x), .slice (some ⟨bR, 0, none⟩) used cap, .int .i64 (most : Nat)] w fun e w' => ∃ v, e = .returned v ∧
      ((most < (wsOf PL).length ∧ (∃ u, v = .tuple #[u, .bool false]) ∧ Fr (fun _ => False) w w') ∨
       ((wsOf PL).length ≤ most ∧ v = .tuple #[.slice (some ⟨bR, 0, none⟩) (used + PL.length) cap, .bool true] ∧ Fr (fun k => k = bX ∨ k = bR ∨ some k = pv.ownBlock) w w' ∧ CutTo w' bX bR Bx n tv read cap used (used + PL.length) c0 xs (outOf x p PL))) := by
  obtain ⟨n0, hn0⟩ : ∃ n0, n0 = w.heap.size := ⟨_, rfl⟩
  obtain ⟨bT, cT, rfl, hbT, hcT, hcell⟩ := ht.ex
  obtain ⟨bt, bc, hbt, htab⟩ := hcell p.ti t hti
  have htl : p.ti < T.length := (List.getElem?_eq_some_iff.1 hti).1
  have hXlt := lt_of hX
  have hRlt := lt_of hR
  refine callsD_of Ybaf.func16 rfl rfl ?_
  refine WD.seqc (fun ds F w1 => ds = [] ∧ Has F [(0, .pointer (some ⟨bX, 0, none⟩)), (6, .pointer (some ⟨n0, 0, none⟩)), (7, .pointer (some ⟨n0 + 1, 0, none⟩)), (8, .pointer (some ⟨n0 + 2, 0, none⟩)), (9, .pointer (some ⟨n0 + 3, 0, none⟩)), (10, .pointer (some ⟨n0 + 4, 0, none⟩)), (11, .pointer (some ⟨n0 + 5, 0, none⟩))] ∧ Fr (fun _ => False) w w1 ∧ w1.heap.size = n0 + 6 ∧
    w1.heap[n0]? = some (.cells (pcRow p rv) 48 (0, 0)) ∧ w1.heap[n0 + 1]? = some (.cells (winRow x) 32 (0, 0)) ∧ w1.heap[n0 + 2]? = some (.cells #[.slice (some ⟨bR, 0, none⟩) used cap] 46 (0, 0)) ∧ w1.heap[n0 + 3]? = some (.cells #[.int .i64 (most : Nat)] 3 (0, 0)) ∧ w1.heap[n0 + 4]? = some (.cells #[.slice none 0 0] 46 (0, 0)) ∧ w1.heap[n0 + 5]? = some (.cells #[.bool false] 4 (0, 0))) ?_ ?_
  · have hfr0 : Fr (fun _ => False) w w := Fr.refl w
    rw [hn0]
    have FRsz := Fr.size hfr0
    refine WD.region rfl ?_
    refine RL.val rfl (ex_box (by conv => lhs; whnf) (by first | (conv => lhs; simp only [sz_al, sz_sr, sz_dn]) | rfl)) ?_
    refine RL.val rfl (ex_box (by conv => lhs; whnf) (by first | (conv => lhs; simp only [sz_al, sz_sr, sz_dn]) | rfl)) ?_
    refine RL.val rfl (ex_box (by conv => lhs; whnf) (by first | (conv => lhs; simp only [sz_al, sz_sr, sz_dn]) | rfl)) ?_
    refine RL.val rfl (ex_box (by conv => lhs; whnf) (by first | (conv => lhs; simp only [sz_al, sz_sr, sz_dn]) | rfl)) ?_
    refine RL.val rfl (ex_alloc Ybaf.zo46 (by first | (conv => lhs; simp only [sz_al, sz_sr, sz_dn]) | rfl)) ?_
    refine RL.val rfl (ex_alloc Ybaf.zo4 (by first | (conv => lhs; simp only [sz_al, sz_sr, sz_dn]) | rfl)) ?_
    refine RL.nil ?_
    exact ⟨rfl, ⟨rfl, rfl, rfl, rfl, rfl, rfl, rfl, trivial⟩, (Fr.alloc (Fr.alloc (Fr.alloc (Fr.alloc (Fr.alloc (Fr.alloc hfr0 _) _) _) _) _) _), by simp only [sz_al], (al (al (al (al (al (an' (by first | (simp only [sz_al, sz_sr, sz_dn]; done) | rfl | omega | (simp only [sz_al, sz_sr, sz_dn]; omega)))))))), (al (al (al (al (an' (by first | (simp only [sz_al, sz_sr, sz_dn]; done) | rfl | omega | (simp only [sz_al, sz_sr, sz_dn]; omega))))))), (al (al (al (an' (by first | (simp only [sz_al, sz_sr, sz_dn]; done) | rfl | omega | (simp only [sz_al, sz_sr, sz_dn]; omega)))))), (al (al (an' (by first | (simp only [sz_al, sz_sr, sz_dn]; done) | rfl | omega | (simp only [sz_al, sz_sr, sz_dn]; omega))))), (al (an' (by first | (simp only [sz_al, sz_sr, sz_dn]; done) | rfl | omega | (simp only [sz_al, sz_sr, sz_dn]; omega)))), (an' (by first | (simp only [sz_al, sz_sr, sz_dn]; done) | rfl | omega | (simp only [sz_al, sz_sr, sz_dn]; omega)))⟩
  rintro ds F w1 ⟨rfl, hF, hf1, hsz1, h6, h7, h8, h9, h10, h11⟩
  obtain ⟨G, rfl⟩ := hF.get
  clear hF
  have hX1 := hf1.keep hX id
  have hcT1 := hf1.keep hcT id
  refine WD.seqc (fun ds F w2 => ds = [] ∧ Has F [(0, .pointer (some ⟨bX, 0, none⟩)), (6, .pointer (some ⟨n0, 0, none⟩)), (7, .pointer (some ⟨n0 + 1, 0, none⟩)), (8, .pointer (some ⟨n0 + 2, 0, none⟩)), (9, .pointer (some ⟨n0 + 3, 0, none⟩)), (10, .pointer (some ⟨n0 + 4, 0, none⟩)), (11, .pointer (some ⟨n0 + 5, 0, none⟩)), (12, .pointer (some ⟨bc, 0, none⟩))] ∧ Fr (fun _ => False) w1 w2 ∧ w2.heap.size = n0 + 6) ?_ ?_
  · have hfr1 : Fr (fun _ => False) w1 w1 := Fr.refl w1
    have LT0 := lt_of hX1
    have LT900 := lt_of hcT1
    have LT6 := lt_of h6
    have FRsz := Fr.size hfr1
    refine WD.draw [] rfl (by kernel_rfl) ?_
    refine AE.take 0 rfl (by kernel_rfl) rfl (fun w' hw => ex_move (by conv => lhs; whnf)) (Ext.drew (Ext.refl _) 1) ?_
    refine AE.take 1 rfl (by kernel_rfl) rfl (fun w' hw => ex_nilCheck (by conv => lhs; whnf)) (Ext.drew (Ext.refl _) 1) ?_
    refine AE.take 2 rfl (by kernel_rfl) rfl (fun w' hw => ex_fieldAddr (by conv => lhs; whnf) Ybaf.fo42_0) (Ext.drew (Ext.refl _) 1) ?_
    refine AE.take 3 rfl (by kernel_rfl) rfl (fun w' hw => ex_loadB (by conv => lhs; whnf) Ybaf.sc27 (hw.keep hX1) (by conv => lhs; whnf)) (Ext.drew (Ext.refl _) 1) ?_
    refine AE.take 4 rfl (by kernel_rfl) rfl (fun w' hw => ex_fieldAddr (by conv => lhs; whnf) Ybaf.fo48_0) (Ext.drew (Ext.refl _) 1) ?_
    refine AE.take 5 rfl (by kernel_rfl) rfl (fun w' hw => ex_loadB (by conv => lhs; whnf) Ybaf.sc3 (hw.keep h6) (by conv => lhs; whnf)) (Ext.drew (Ext.refl _) 1) ?_
    refine AE.take 6 rfl (by kernel_rfl) rfl (fun w' hw => ex_ix1 (by conv => lhs; whnf) (by conv => lhs; whnf) Ybaf.sl27 Ybaf.sz52 rfl (by omega)) (Ext.drew (Ext.refl _) 1) ?_
    refine AE.take 7 rfl (by kernel_rfl) rfl (fun w' hw => ex_load (by conv => lhs; whnf) Ybaf.sc52 (cellOf (hw.keep hcT1) hbt)) (Ext.drew (Ext.refl _) 1) ?_
    refine AE.call 8 rfl (by kernel_rfl) rfl (ex_call2 rfl (by conv => lhs; whnf) (by conv => lhs; whnf) Ybaf.fun12) (column (htab.keep (Fr.up (hf1.drew 1)))) ?_
    rintro v w2 ⟨rfl, rfl⟩
    refine ⟨fun _ => (Ext.drew (Ext.refl _) 1), ?_⟩
    refine AE.take 9 rfl (by kernel_rfl) rfl (fun w' hw => ex_assign (by conv => lhs; whnf)) (Ext.drew (Ext.refl _) 1) ?_
    refine AE.nil (by kernel_rfl) ?_
    exact ⟨rfl, ⟨rfl, rfl, rfl, rfl, rfl, rfl, rfl, rfl, trivial⟩, (Fr.drew hfr1 1), by rw [sz_dn]; exact hsz1⟩
  rintro ds F w2 ⟨rfl, hF, hf2, hsz2⟩
  obtain ⟨G, rfl⟩ := hF.get
  clear hF
  refine WD.seq ?_
  have hfr2 : Fr (fun _ => False) w2 w2 := Fr.refl w2
  have FRsz := Fr.size hfr2
  refine WD.region rfl ?_
  refine RL.val rfl (ex_makeMap (q := n0 + 6) (by omega)) ?_
  refine RL.val rfl (ex_alloc Ybaf.zo86 (by first | (conv => lhs; simp only [sz_al, sz_sr, sz_dn]) | rfl)) ?_
  refine RL.unit (ex_store (by conv => lhs; whnf) (by conv => lhs; whnf) Ybaf.sc86 rfl (an' (by first | (simp only [sz_al, sz_sr, sz_dn]; done) | rfl | omega | (simp only [sz_al, sz_sr, sz_dn]; omega))) rfl) ?_
  refine RL.nil ?_
  refine WD.seq ?_
  refine WD.region rfl ?_
  refine RL.val rfl (ex_alloc Ybaf.zo87 (by first | (conv => lhs; simp only [sz_al, sz_sr, sz_dn]) | rfl)) ?_
  refine RL.nil ?_
  refine WD.seqc (fun ds F w3 => ds = [] ∧ Has F [(0, .pointer (some ⟨bX, 0, none⟩)), (6, .pointer (some ⟨n0, 0, none⟩)), (7, .pointer (some ⟨n0 + 1, 0, none⟩)), (8, .pointer (some ⟨n0 + 2, 0, none⟩)), (9, .pointer (some ⟨n0 + 3, 0, none⟩)), (10, .pointer (some ⟨n0 + 4, 0, none⟩)), (11, .pointer (some ⟨n0 + 5, 0, none⟩)), (12, .pointer (some ⟨bc, 0, none⟩)), (13, .pointer (some ⟨n0 + 7, 0, none⟩)), (14, .pointer (some ⟨n0 + 8, 0, none⟩)), (15, .pointer (some ⟨n0 + 9, 0, none⟩)), (16, .pointer (some ⟨n0 + 10, 0, none⟩))] ∧ Fr (fun _ => False) w2 w3 ∧ w3.heap.size = n0 + 11 ∧ w3.heap[n0 + 6]? = some (.map #[] 0) ∧ w3.heap[n0 + 7]? = some (.cells #[.map (some (n0 + 6))] 86 (0, 0)) ∧ w3.heap[n0 + 8]? = some (.cells #[.slice none 0 0] 87 (0, 0)) ∧ w3.heap[n0 + 9]? = some (.cells #[.slice none 0 0] 46 (0, 0)) ∧ w3.heap[n0 + 10]? = some (.cells #[.slice none 0 0] 46 (0, 0))) ?_ ?_
  · refine WD.region rfl ?_
    refine RL.val rfl (ex_alloc Ybaf.zo46 (by first | (conv => lhs; simp only [sz_al, sz_sr, sz_dn]) | rfl)) ?_
    refine RL.val rfl (ex_alloc Ybaf.zo46 (by first | (conv => lhs; simp only [sz_al, sz_sr, sz_dn]) | rfl)) ?_
    refine RL.nil ?_
    exact ⟨rfl, ⟨rfl, rfl, rfl, rfl, rfl, rfl, rfl, rfl, by simp only [sz_al, hsz2]; rfl, by simp only [sz_al, sz_sr, hsz2]; rfl, by simp only [sz_al, sz_sr, hsz2]; rfl, by simp only [sz_al, sz_sr, hsz2]; rfl, trivial⟩, (Fr.alloc (Fr.alloc (Fr.alloc (Fr.set (Fr.alloc (Fr.alloc hfr2 _) _) _ _ (fun hh => by first | exact rfl | exact .inl rfl | exact .inr (.inl rfl) | exact .inr (.inr rfl) | ((try simp only [sz_al, sz_sr, sz_dn] at hh); (try simp only [sz_al, sz_sr, sz_dn]); (first | omega | (dsimp only; omega) | exact .inl rfl | exact .inr (.inl rfl))))) _) _) _), by simp only [sz_al, sz_sr, hsz2], (al (al (al (sr_ne (al (an' (by first | (simp only [sz_al, sz_sr, sz_dn]; done) | rfl | omega | (simp only [sz_al, sz_sr, sz_dn]; omega)))) (by (try simp only [sz_al, sz_sr, sz_dn]); omega))))), by rw [show n0 + 7 = w2.heap.size + 1 by omega]; exact (al (al (al (sr_eq (an' (by first | (simp only [sz_al, sz_sr, sz_dn]; done) | rfl | omega | (simp only [sz_al, sz_sr, sz_dn]; omega))))))), (al (al (an' (by first | (simp only [sz_al, sz_sr, sz_dn]; done) | rfl | omega | (simp only [sz_al, sz_sr, sz_dn]; omega))))), (al (an' (by first | (simp only [sz_al, sz_sr, sz_dn]; done) | rfl | omega | (simp only [sz_al, sz_sr, sz_dn]; omega)))), (an' (by first | (simp only [sz_al, sz_sr, sz_dn]; done) | rfl | omega | (simp only [sz_al, sz_sr, sz_dn]; omega)))⟩
  rintro ds F w3 ⟨rfl, hF, hf3, hsz3, h6m, h13, h14, h15, h16⟩
  obtain ⟨G, rfl⟩ := hF.get
  clear hF
  have hf13 := hf2.trans hf3 (fun _ _ h => h)
  have hf03 := hf1.trans hf13 (fun _ _ h => h)
  have h6' := hf13.keep h6 id
  have h7' := hf13.keep h7 id
  have hX3 := hf03.keep hX id
  refine WD.seqc (fun ds F w5 => ∃ D1, ds = [Eng.mark D1] ∧ w5.heap[D1]? = some (.deferred (some [])) ∧ n0 + 16 ≤ D1 ∧ Has F [(0, .pointer (some ⟨bX, 0, none⟩)), (6, .pointer (some ⟨n0, 0, none⟩)), (7, .pointer (some ⟨n0 + 1, 0, none⟩)), (8, .pointer (some ⟨n0 + 2, 0, none⟩)), (9, .pointer (some ⟨n0 + 3, 0, none⟩)), (10, .pointer (some ⟨n0 + 4, 0, none⟩)), (11, .pointer (some ⟨n0 + 5, 0, none⟩)), (12, .pointer (some ⟨bc, 0, none⟩)), (13, .pointer (some ⟨n0 + 7, 0, none⟩)), (14, .pointer (some ⟨n0 + 8, 0, none⟩)), (15, .pointer (some ⟨n0 + 9, 0, none⟩)), (16, .pointer (some ⟨n0 + 10, 0, none⟩))] ∧ Fr (fun k => n0 + 6 ≤ k ∧ k ≤ n0 + 10 ∧ k ≠ n0 + 7) w3 w5 ∧ ∃ wv sv iv, L1v w5 n0 x PL most PL.length wv sv iv w5) ?_ ?_
  · refine WD.seqc (fun ds F w4 => ds = [] ∧ Has F [(0, .pointer (some ⟨bX, 0, none⟩)), (6, .pointer (some ⟨n0, 0, none⟩)), (7, .pointer (some ⟨n0 + 1, 0, none⟩)), (8, .pointer (some ⟨n0 + 2, 0, none⟩)), (9, .pointer (some ⟨n0 + 3, 0, none⟩)), (10, .pointer (some ⟨n0 + 4, 0, none⟩)), (11, .pointer (some ⟨n0 + 5, 0, none⟩)), (12, .pointer (some ⟨bc, 0, none⟩)), (13, .pointer (some ⟨n0 + 7, 0, none⟩)), (14, .pointer (some ⟨n0 + 8, 0, none⟩)), (15, .pointer (some ⟨n0 + 9, 0, none⟩)), (16, .pointer (some ⟨n0 + 10, 0, none⟩)), (49, (.func (.func 31) #[] #[.pointer (some ⟨n0 + 15, 0, none⟩), .pointer (some ⟨n0 + 14, 0, none⟩), .pointer (some ⟨n0 + 13, 0, none⟩)]))] ∧ Fr (fun _ => False) w3 w4 ∧ w4.heap.size = n0 + 16 ∧ MfP B T p (n0 + 11) (n0 + 12) rv (.slice (some ⟨bT, 0, none⟩) T.length T.length) t bc x (n0 + 15) (n0 + 14) (n0 + 13) w4) ?_ ?_
    · have hfr3 : Fr (fun _ => False) w3 w3 := Fr.refl w3
      have LT0 := lt_of hX3
      have LT6 := lt_of h6'
      have LT7 := lt_of h7'
      have FRsz := Fr.size hfr3
      refine WD.draw [] rfl (by kernel_rfl) ?_
      refine AE.take 0 rfl (by kernel_rfl) rfl (fun w' hw => ex_loadW (by conv => lhs; whnf) (hw.keep h7') Ybaf.ag32 (by rfl)) (Ext.drew (Ext.refl _) 1) ?_
      refine AE.take 1 rfl (by kernel_rfl) rfl (fun w' hw => ex_move (by conv => lhs; whnf)) (Ext.drew (Ext.refl _) 1) ?_
      refine AE.take 2 rfl (by kernel_rfl) rfl (fun w' hw => ex_loadW (by conv => lhs; whnf) (hw.keep h6') Ybaf.ag48 (by rfl)) (Ext.drew (Ext.refl _) 1) ?_
      refine AE.take 3 rfl (by kernel_rfl) rfl (fun w' hw => ex_move (by conv => lhs; whnf)) (Ext.drew (Ext.refl _) 1) ?_
      refine AE.take 4 rfl (by kernel_rfl) rfl (fun w' hw => ex_nilCheck (by conv => lhs; whnf)) (Ext.drew (Ext.refl _) 1) ?_
      refine AE.take 5 rfl (by kernel_rfl) rfl (fun w' hw => ex_fieldAddr (by conv => lhs; whnf) Ybaf.fo42_0) (Ext.drew (Ext.refl _) 1) ?_
      refine AE.take 6 rfl (by kernel_rfl) rfl (fun w' hw => ex_loadB (by conv => lhs; whnf) Ybaf.sc27 (hw.keep hX3) (by conv => lhs; whnf)) (Ext.drew (Ext.refl _) 1) ?_
      refine AE.call 7 rfl (by kernel_rfl) rfl (ex_call2 rfl (by rfl) (by conv => lhs; whnf) Ybaf.fun13) (rowsIn (p := p) (rv := rv) rfl) ?_
      rintro v w3' ⟨rfl, hbp, hbq, hsz3', hf3'⟩
      refine ⟨fun _ => Ext.trans (Ext.drew (Ext.refl _) 1) (Ext.of_fr hf3'), ?_⟩
      refine AE.call 8 rfl (by kernel_rfl) rfl (ex_call3 rfl (by rfl) (by conv => lhs; whnf) (by conv => lhs; whnf) Ybaf.fun28) (placements (x := x) rfl rfl) ?_
      rintro v w4 ⟨rfl, hb3, hb2, hb1, hsz4, hf4⟩
      refine ⟨fun _ => Ext.trans (Ext.trans (Ext.drew (Ext.refl _) 1) (Ext.of_fr hf3')) (Ext.of_fr hf4), ?_⟩
      refine AE.nil (by kernel_rfl) ?_
      have hfr4 : Fr (fun _ => False) w w4 := hf03.trans (Fr.trans (Fr.trans (Fr.drew hfr3 1) hf3' (fun _ _ h => h)) hf4 (fun _ _ h => h)) (fun _ _ h => h)
      rw [sz_dn, hsz3] at hbp hbq hsz3'
      rw [hsz3'] at hb1 hb2 hb3 hsz4
      exact ⟨rfl, ⟨rfl, rfl, rfl, rfl, rfl, rfl, rfl, rfl, rfl, rfl, rfl, rfl, (by simp only [sz_dn, hsz3, hsz3']; rfl), trivial⟩, (Fr.trans (Fr.trans (Fr.drew hfr3 1) hf3' (fun _ _ h => h)) hf4 (fun _ _ h => h)), hsz4, ⟨⟨hf4.keep hbp id, hf4.keep hbq id, hr.keep (Fr.up hfr4), ht.keep (Fr.up hfr4)⟩, by simpa only [sz_dn, hsz3] using hb1, hb2, hb3, htab.col.keep (Fr.up hfr4)⟩⟩
    rintro ds F w4 ⟨rfl, hF, hf4, hsz4, hmf⟩
    obtain ⟨G, rfl⟩ := hF.get
    clear hF
    have hf14 := hf13.trans hf4 (fun _ _ h => h)
    have h6m4 := hf4.keep h6m id
    have h8w := hf14.keep h8 id
    have h9w := hf14.keep h9 id
    have h10w := hf14.keep h10 id
    have h11w := hf14.keep h11 id
    have h13w := hf4.keep h13 id
    have h14w := hf4.keep h14 id
    have h15w := hf4.keep h15 id
    have h16w := hf4.keep h16 id
    have hws : (wsOf PL).length ≤ PL.length := ws_len
    have it := iterPl (B := B) (bp := n0 + 11) (bq := n0 + 12) (bc := bc) (b1 := n0 + 15) (b2 := n0 + 14) (b3 := n0 + 13) (rv := rv) (tv := (.slice (some ⟨bT, 0, none⟩) T.length T.length)) hti hok hx hlen hrs
    rw [← hPL] at it
    refine WD.block ?_
    refine WD.range kap_nc (len := PL.length) (enc := encP x PL) (Mf := MfP B T p (n0 + 11) (n0 + 12) rv (.slice (some ⟨bT, 0, none⟩) T.length T.length) t bc x (n0 + 15) (n0 + 14) (n0 + 13)) rfl Ybaf.fun31 it (fun _ _ => rfl) (fun _ _ => rfl)
      (fun k W => ∃ wv sv iv, L1v w4 n0 x PL most k wv sv iv W)
      (fun c W => c = .ret ∧ Fr (fun k => n0 + 4 ≤ k ∧ k ≤ n0 + 10 ∧ k ≠ n0 + 7) w4 W ∧ W.heap[n0 + 4]? = some (.cells #[.slice (some ⟨bR, 0, none⟩) used cap] 46 (0, 0)) ∧ W.heap[n0 + 5]? = some (.cells #[.bool false] 4 (0, 0)) ∧ most < (wsOf PL).length)
      (fun k F' W => ∃ b18, Has F' [(0, .pointer (some ⟨bX, 0, none⟩)), (6, .pointer (some ⟨n0, 0, none⟩)), (7, .pointer (some ⟨n0 + 1, 0, none⟩)), (8, .pointer (some ⟨n0 + 2, 0, none⟩)), (9, .pointer (some ⟨n0 + 3, 0, none⟩)), (10, .pointer (some ⟨n0 + 4, 0, none⟩)), (11, .pointer (some ⟨n0 + 5, 0, none⟩)), (12, .pointer (some ⟨bc, 0, none⟩)), (13, .pointer (some ⟨n0 + 7, 0, none⟩)), (14, .pointer (some ⟨n0 + 8, 0, none⟩)), (15, .pointer (some ⟨n0 + 9, 0, none⟩)), (16, .pointer (some ⟨n0 + 10, 0, none⟩)), (18, .pointer (some ⟨b18, 0, none⟩))] ∧ W.heap[b18]? = some (.cells #[.int .i64 (PL.getD k (0, 0)).2, .int .i64 ((PL.getD k (0, 0)).2 + x.p)] 92 (0, 0)) ∧ ∃ wv sv iv, L1v w4 n0 x PL most k wv sv iv W)
      (fun i W ⟨wv, sv, iv, h⟩ => hmf.keepS h.fr (fun k hk => by omega) (by omega) (by omega) (by omega) (by omega) (by omega))
      (fun i W1 W2 ⟨wv, sv, iv, h⟩ hs => ⟨wv, sv, iv, h.its (by rwa [hsz4] at hs) hsz4⟩)
      (fun c W1 W2 ⟨hc, h1, h2, h3, h4⟩ hs => ⟨hc, hs.fr h1 (Nat.le_refl _), hs.cells h2, hs.cells h3, h4⟩)
      (fun i F' W1 W2 ⟨b18, h1, h2, wv, sv, iv, h⟩ hs => ⟨b18, h1, hs.cells h2, wv, sv, iv, h.its (by rwa [hsz4] at hs) hsz4⟩)
      ⟨_, _, _, ⟨Fr.refl w4, ⟨_, _, h6m4, rfl⟩, Nat.zero_le _, h14w, h15w, h16w, ⟨rfl, .inl ⟨rfl, rfl⟩⟩, ⟨rfl, .inl ⟨rfl, rfl⟩⟩, ⟨rfl, .inl ⟨rfl, rfl⟩⟩, .inl rfl⟩⟩ ?_ ?_ ?_ ?_
    · rintro l i W hi hl2 ⟨wv, sv, iv, hL⟩
      have hfrW : Fr (fun _ => False) W W := Fr.refl W
      have FRsz := Fr.size hfrW
      refine WD.region rfl ?_
      refine RL.val rfl (ex_alloc Ybaf.zo92 (by first | (conv => lhs; simp only [sz_al, sz_sr, sz_dn]) | rfl)) ?_
      refine RL.unit (ex_storeW (by conv => lhs; whnf) (by conv => lhs; whnf) Ybaf.ag92 (an' (by first | (simp only [sz_al, sz_sr, sz_dn]; done) | rfl | omega | (simp only [sz_al, sz_sr, sz_dn]; omega))) (by rfl) (by rfl) (by rfl)) ?_
      refine RL.nil ?_
      exact ⟨(KO.set (KO.alloc (KO.refl _ _ _) _) (an' (by first | (simp only [sz_al, sz_sr, sz_dn]; done) | rfl | omega | (simp only [sz_al, sz_sr, sz_dn]; omega))) rfl), _, ⟨rfl, rfl, rfl, rfl, rfl, rfl, rfl, rfl, rfl, rfl, rfl, rfl, rfl, trivial⟩, (sr_eq (an' (by first | (simp only [sz_al, sz_sr, sz_dn]; done) | rfl | omega | (simp only [sz_al, sz_sr, sz_dn]; omega)))), wv, sv, iv, hL.its (ItS.of_pure (Fr.set (Fr.alloc hfrW _) _ _ (fun hh => by first | exact rfl | exact .inl rfl | exact .inr (.inl rfl) | exact .inr (.inr rfl) | ((try simp only [sz_al, sz_sr, sz_dn] at hh); (try simp only [sz_al, sz_sr, sz_dn]); (first | omega | (dsimp only; omega) | exact .inl rfl | exact .inr (.inl rfl)))))) hsz4⟩
    · rintro l i F' W hi hl2 ⟨rr, hrr⟩ ⟨b18, hF, h18, wv, sv, iv, hL⟩ dd
      obtain ⟨⟨r, s⟩, hq⟩ : ∃ q, PL[i]? = some q := ⟨_, List.getElem?_eq_getElem hi⟩
      have hg : PL.getD i (0, 0) = (r, s) := by rw [List.getD_eq_getElem?_getD, hq]; rfl
      rw [hg] at h18
      dsimp only at h18
      obtain ⟨G, rfl⟩ := hF.get
      clear hF
      have hfr := hL.fr
      have hszW := hfr.size
      have h13W := hfr.keep h13w (by omega)
      have h8W := hfr.keep h8w (by omega)
      have h9W := hfr.keep h9w (by omega)
      have h10W := hfr.keep h10w (by omega)
      have h11W := hfr.keep h11w (by omega)
      have hwl := ws_len_le PL i
      have hmem1 := ws_mem1 hq
      have hide := idx_stable hmem1
      have htk := take_snoc hq
      refine WD.block ?_
      refine WD.seqc (fun ds F W' => ds = dd ∧ W' = W ∧ Has F [(0, .pointer (some ⟨bX, 0, none⟩)), (6, .pointer (some ⟨n0, 0, none⟩)), (7, .pointer (some ⟨n0 + 1, 0, none⟩)), (8, .pointer (some ⟨n0 + 2, 0, none⟩)), (9, .pointer (some ⟨n0 + 3, 0, none⟩)), (10, .pointer (some ⟨n0 + 4, 0, none⟩)), (11, .pointer (some ⟨n0 + 5, 0, none⟩)), (12, .pointer (some ⟨bc, 0, none⟩)), (13, .pointer (some ⟨n0 + 7, 0, none⟩)), (14, .pointer (some ⟨n0 + 8, 0, none⟩)), (15, .pointer (some ⟨n0 + 9, 0, none⟩)), (16, .pointer (some ⟨n0 + 10, 0, none⟩)), (18, .pointer (some ⟨b18, 0, none⟩)), (19, .int .i64 (if s ∈ wsOf (PL.take i) then (((wsOf (PL.take i)).idxOf s : Nat) : Int) else 0)), (20, .bool (decide (s ∈ wsOf (PL.take i))))]) ?_ ?_
      · have LT13 := lt_of h13W
        have LT18 := lt_of h18
        refine WD.region rfl ?_
        refine RL.val rfl (ex_loadB (by conv => lhs; whnf) Ybaf.sc86 h13W (by conv => lhs; whnf)) ?_
        refine RL.val rfl (ex_loadW (by conv => lhs; whnf) h18 Ybaf.ag92 (by rfl)) ?_
        refine RL.val rfl (ex_lookupW (x := x) (s := s) (by conv => lhs; whnf) (by conv => lhs; whnf) hL.map) ?_
        refine RL.val rfl (ex_move (by conv => lhs; whnf)) ?_
        refine RL.val rfl (ex_extract (by conv => lhs; whnf) rfl) ?_
        refine RL.val rfl (ex_extract (by conv => lhs; whnf) rfl) ?_
        refine RL.val rfl (ex_assign (by conv => lhs; whnf)) ?_
        refine RL.val rfl (ex_assign (by conv => lhs; whnf)) ?_
        refine RL.nil ?_
        exact ⟨rfl, rfl, rfl, rfl, rfl, rfl, rfl, rfl, rfl, rfl, rfl, rfl, rfl, rfl, rfl, rfl, rfl, trivial⟩
      rintro ds F W' ⟨rfl, rfl, hF⟩
      obtain ⟨G, rfl⟩ := hF.get
      clear hF
      refine WD.seqc (fun ds' F W2 => ds' = ds ∧ ∃ (id c : Nat) (szl : List Nat) (wv' sv' : Value), Has F [(0, .pointer (some ⟨bX, 0, none⟩)), (6, .pointer (some ⟨n0, 0, none⟩)), (7, .pointer (some ⟨n0 + 1, 0, none⟩)), (8, .pointer (some ⟨n0 + 2, 0, none⟩)), (9, .pointer (some ⟨n0 + 3, 0, none⟩)), (10, .pointer (some ⟨n0 + 4, 0, none⟩)), (11, .pointer (some ⟨n0 + 5, 0, none⟩)), (12, .pointer (some ⟨bc, 0, none⟩)), (13, .pointer (some ⟨n0 + 7, 0, none⟩)), (14, .pointer (some ⟨n0 + 8, 0, none⟩)), (15, .pointer (some ⟨n0 + 9, 0, none⟩)), (16, .pointer (some ⟨n0 + 10, 0, none⟩)), (19, .int .i64 (id : Nat))] ∧ KO kap w4.heap.size W' W2 ∧ Fr (fun k => n0 + 6 ≤ k ∧ k ≤ n0 + 10 ∧ k ≠ n0 + 7) w4 W2 ∧ MapW x W2 (n0 + 6) (wsOf (PL.take (i + 1))) ∧ (wsOf (PL.take (i + 1))).length ≤ most ∧
        W2.heap[n0 + 8]? = some (.cells #[wv'] 87 (0, 0)) ∧ W2.heap[n0 + 9]? = some (.cells #[sv'] 46 (0, 0)) ∧ W2.heap[n0 + 10]? = some (.cells #[iv] 46 (0, 0)) ∧ W2.ownsRow (n0 + 16) 92 2 wv' (wsOf (PL.take (i + 1))).length ((wsOf (PL.take (i + 1))).flatMap (winCells x)) ∧ W2.ownsRow (n0 + 16) 3 1 sv' (wsOf (PL.take (i + 1))).length (szv szl) ∧
        W2.ownsRow (n0 + 16) 3 1 iv i (idsOf (wsOf PL) (PL.take i)) ∧ (sv'.ownBlock = none ∨ sv'.ownBlock ≠ iv.ownBlock) ∧ id = (wsOf PL).idxOf s ∧ id < (wsOf (PL.take (i + 1))).length ∧ szl[id]? = some c ∧ c ≤ PL.length ∧ szl.set id (c + 1) = sizes (PL.take (i + 1))) ?_ ?_
      · refine WD.seq ?_
        have LT13 := lt_of h13W
        have LT18 := lt_of h18
        refine WD.region rfl ?_
        refine RL.val rfl (ex_move (by conv => lhs; whnf)) ?_
        refine RL.val rfl (ex_not (by conv => lhs; whnf)) ?_
        refine RL.nil ?_
        by_cases hs : s ∈ wsOf (PL.take i)
        · have hw1 : wsOf (PL.take (i + 1)) = wsOf (PL.take i) := by rw [htk, wsOf_snoc, addW, if_pos hs]
          have hilt := List.idxOf_lt_length_of_mem hs
          refine WD.cond_false (by rw [decide_eq_true hs]; rfl) ?_
          refine WD.skip ?_
          refine ⟨rfl, (wsOf (PL.take i)).idxOf s, (grp (PL.take i) s).length, sizes (PL.take i), wv, sv, ⟨rfl, rfl, rfl, rfl, rfl, rfl, rfl, rfl, rfl, rfl, rfl, rfl, (by rw [if_pos hs]; rfl), trivial⟩, KO.refl _ _ _, hfr, ?_⟩
          rw [hw1]
          refine ⟨hL.map, hL.le, hL.h14, hL.h15, hL.h16, hL.ow, hL.os, hL.oi, hL.ne, ?_, hilt, sizes_at (ws_idx hs), ?_, ?_⟩
          · rw [hide, hw1]
          · have h1 := grp_le (PL.take i) s
            have h2 : (PL.take i).length ≤ PL.length := by rw [List.length_take]; omega
            omega
          · rw [htk]; exact sz_hit hs
        · have hw1 : wsOf (PL.take (i + 1)) = wsOf (PL.take i) ++ [s] := by rw [htk, wsOf_snoc, addW, if_neg hs]
          have hwl1 := ws_len_le PL (i + 1)
          rw [hw1, List.length_append, List.length_singleton] at hwl1
          refine WD.cond_true (by rw [decide_eq_false hs]; rfl) ?_
          refine WD.seq ?_
          refine WD.seq ?_
          have h14W := hL.h14
          have h15W := hL.h15
          have h16W := hL.h16
          obtain ⟨wa, wc, hwv, _⟩ := own_value hL.ow
          subst hwv
          have LT13 := lt_of h13W
          have LT18 := lt_of h18
          have LT8 := lt_of h8W
          have LT9 := lt_of h9W
          have LT10 := lt_of h10W
          have LT11 := lt_of h11W
          have LT14 := lt_of h14W
          have FRsz := Fr.size hfr
          refine WD.region rfl ?_
          refine RL.val rfl (ex_loadB (by conv => lhs; whnf) Ybaf.sc87 h14W (by conv => lhs; whnf)) ?_
          refine RL.val rfl (ex_len (by conv => lhs; whnf) Ybaf.sl87) ?_
          refine RL.val rfl (ex_loadB (by conv => lhs; whnf) Ybaf.sc3 h9W (by conv => lhs; whnf)) ?_
          refine RL.val rfl (ex_eql (by conv => lhs; whnf) (by conv => lhs; whnf)) ?_
          refine RL.nil ?_
          refine WD.cond _ (by conv => lhs; whnf) (fun he => ?_) (fun he => ?_)
          · have he := of_decide_eq_true he
            refine WD.seq ?_
            refine WD.region rfl ?_
            refine RL.val rfl (ex_loadB (by conv => lhs; whnf) Ybaf.sc46 h8W (by conv => lhs; whnf)) ?_
            refine RL.unit (ex_store (by conv => lhs; whnf) (by conv => lhs; whnf) Ybaf.sc46 rfl h10W rfl) ?_
            refine RL.unit (ex_store (by conv => lhs; whnf) (by conv => lhs; whnf) Ybaf.sc4 rfl (sr_ne h11W (by first | exact ne_of_type h11W h10W rfl | omega)) rfl) ?_
            refine RL.nil ?_
            refine WD.ret ?_
            repeat (first | refine thenD_ret ?_ | refine blockD_ret ?_)
            refine ⟨(KO.set (KO.set (KO.refl _ _ _) h10W rfl) (sr_ne h11W (by first | exact ne_of_type h11W h10W rfl | omega)) rfl), rfl, ?_, (sr_ne (sr_eq h10W) (by first | exact ne_of_type h10W h11W rfl | omega)), (sr_eq (sr_ne h11W (by first | exact ne_of_type h11W h10W rfl | omega))), by omega⟩
            exact ((hfr.mono (S' := (fun k => n0 + 4 ≤ k ∧ k ≤ n0 + 10 ∧ k ≠ n0 + 7)) (fun k _ h => by omega)).set _ _ (fun _ => by omega)).set _ _ (fun _ => by omega)
          have he := of_decide_eq_false he
          refine WD.skip ?_
          refine WD.seq ?_
          refine WD.region rfl ?_
          refine RL.val rfl (ex_loadB (by conv => lhs; whnf) Ybaf.sc87 h14W (by conv => lhs; whnf)) ?_
          refine RL.val rfl (ex_len (by conv => lhs; whnf) Ybaf.sl87) ?_
          refine RL.val rfl (ex_assign (by conv => lhs; whnf)) ?_
          refine RL.nil ?_
          refine WD.seq ?_
          refine WD.region rfl ?_
          refine RL.val rfl (ex_loadB (by conv => lhs; whnf) Ybaf.sc86 h13W (by conv => lhs; whnf)) ?_
          refine RL.val rfl (ex_loadW (by conv => lhs; whnf) h18 Ybaf.ag92 (by rfl)) ?_
          refine RL.val rfl (ex_move (by conv => lhs; whnf)) ?_
          refine RL.mapUpdateW (x := x) (s := s) (by conv => lhs; whnf) (by conv => lhs; whnf) (by conv => lhs; whnf) hL.map hs ?_
          intro W3 hm3 hf3m
          refine RL.nil ?_
          have hko3 := (KO.refl kap w4.heap.size W').low hf3m (by omega)
          have h18_3 := hf3m.keep h18 (by intro e; subst e; obtain ⟨es, cl, hh, _⟩ := hL.map.ex; rw [hh] at h18; cases h18)
          have h14_3 := hf3m.keep h14W (by omega)
          have h15_3 := hf3m.keep h15W (by omega)
          have h16_3 := hf3m.keep h16W (by omega)
          have how3 := hf3m.own hL.ow (fun k hk => by have := (hL.ow.lt k hk).1; omega)
          have hos3 := hf3m.own hL.os (fun k hk => by have := (hL.os.lt k hk).1; omega)
          have hoi3 := hf3m.own hL.oi (fun k hk => by have := (hL.oi.lt k hk).1; omega)
          have hfr3 := hfr.trans hf3m (S := (fun k => n0 + 6 ≤ k ∧ k ≤ n0 + 10 ∧ k ≠ n0 + 7)) (fun k _ h => by omega)
          have hsz3W := hfr3.size
          refine WD.seqc (fun ds' F W4 => ds' = ds ∧ ∃ wv', Has F [(0, .pointer (some ⟨bX, 0, none⟩)), (6, .pointer (some ⟨n0, 0, none⟩)), (7, .pointer (some ⟨n0 + 1, 0, none⟩)), (8, .pointer (some ⟨n0 + 2, 0, none⟩)), (9, .pointer (some ⟨n0 + 3, 0, none⟩)), (10, .pointer (some ⟨n0 + 4, 0, none⟩)), (11, .pointer (some ⟨n0 + 5, 0, none⟩)), (12, .pointer (some ⟨bc, 0, none⟩)), (13, .pointer (some ⟨n0 + 7, 0, none⟩)), (14, .pointer (some ⟨n0 + 8, 0, none⟩)), (15, .pointer (some ⟨n0 + 9, 0, none⟩)), (16, .pointer (some ⟨n0 + 10, 0, none⟩)), (19, .int .i64 ((wsOf (PL.take i)).length : Nat))] ∧ KO kap w4.heap.size W' W4 ∧ Fr (fun k => n0 + 6 ≤ k ∧ k ≤ n0 + 10 ∧ k ≠ n0 + 7) w4 W4 ∧ MapW x W4 (n0 + 6) (wsOf (PL.take i) ++ [s]) ∧
            W4.heap[n0 + 8]? = some (.cells #[wv'] 87 (0, 0)) ∧ W4.heap[n0 + 9]? = some (.cells #[sv] 46 (0, 0)) ∧ W4.heap[n0 + 10]? = some (.cells #[iv] 46 (0, 0)) ∧ W4.ownsRow (n0 + 16) 92 2 wv' ((wsOf (PL.take i)).length + 1) ((wsOf (PL.take i)).flatMap (winCells x) ++ winCells x s) ∧ W4.ownsRow (n0 + 16) 3 1 sv (wsOf (PL.take i)).length (szv (sizes (PL.take i))) ∧ W4.ownsRow (n0 + 16) 3 1 iv i (idsOf (wsOf PL) (PL.take i))) ?_ ?_
          · have LT14 := lt_of h14_3
            have LT18 := lt_of h18_3
            have LT15 := lt_of h15_3
            have LT16 := lt_of h16_3
            have FRsz := Fr.size hfr3
            refine WD.region rfl ?_
            refine RL.val rfl (ex_loadB (by conv => lhs; whnf) Ybaf.sc87 h14_3 (by conv => lhs; whnf)) ?_
            refine RL.val rfl (ex_loadW (by conv => lhs; whnf) h18_3 Ybaf.ag92 (by rfl)) ?_
            refine RL.val rfl (ex_buildSlice1 (by conv => lhs; whnf) Ybaf.sl87 Ybaf.sz92 Ybaf.zo92 rfl rfl rfl (by first | (conv => lhs; simp only [sz_al, sz_sr, sz_dn]) | rfl)) ?_
            refine RL.append1at (n0 + 16) rfl Ybaf.sl87 Ybaf.in92 rfl rfl rfl (by conv => lhs; whnf) (by conv => lhs; whnf) (how3.alloc _) (an' (by first | (simp only [sz_al, sz_sr, sz_dn]; done) | rfl | omega | (simp only [sz_al, sz_sr, sz_dn]; omega))) (by rfl) (by rfl) (by omega) (by rw [sz_al]; omega) ?_
            intro wv' W4 how4 hgr4 hsv4 hat4
            obtain ⟨g4, cap4, rfl⟩ := hsv4
            refine RL.unit (ex_store (by conv => lhs; whnf) (by conv => lhs; whnf) Ybaf.sc87 rfl (gka hgr4 how3 h14_3 rfl) rfl) ?_
            refine RL.nil ?_
            refine ⟨rfl, _, ⟨rfl, rfl, rfl, rfl, rfl, rfl, rfl, rfl, rfl, rfl, rfl, rfl, rfl, trivial⟩, (KO.set (KO.grown (KO.alloc hko3 _) hgr4 (how3.alloc _) rfl) (gka hgr4 how3 h14_3 rfl) rfl), (Fr.set (Fr.growna hfr3 hgr4 (fun kk hkk hlt => absurd (how3.lt kk hkk).1 (by omega))) _ _ (fun hh => by first | exact rfl | exact .inl rfl | exact .inr (.inl rfl) | exact .inr (.inr rfl) | ((try simp only [sz_al, sz_sr, sz_dn] at hh); (try simp only [sz_al, sz_sr, sz_dn]); (first | omega | (dsimp only; omega) | exact .inl rfl | exact .inr (.inl rfl))))), ?_, (sr_eq (gka hgr4 how3 h14_3 rfl)), (sr_ne (gka hgr4 how3 h15_3 rfl) (by first | exact ne_of_type h15_3 h14_3 rfl | omega)), (sr_ne (gka hgr4 how3 h16_3 rfl) (by first | exact ne_of_type h16_3 h14_3 rfl | omega)), own_sr how4 (own_ne_lt how4 (by omega)), ?_, ?_⟩
            · obtain ⟨es, cl, m1, m2⟩ := hm3.ex
              exact ⟨es, cl, sr_ne_any (gk hgr4 (own_ne_lt how3 (by omega)) (al m1)) (by omega), m2⟩
            · exact own_sr (own_gka hos3 hgr4 how3 rfl) (own_ne_lt hos3 (by omega))
            · exact own_sr (own_gka hoi3 hgr4 how3 rfl) (own_ne_lt hoi3 (by omega))
          rintro ds' F W4 ⟨rfl, wv', hF, hko4, hfr4, hm4, h14_4, h15_4, h16_4, how4, hos4, hoi4⟩
          obtain ⟨G, rfl⟩ := hF.get
          clear hF
          have hsz4W := hfr4.size
          have LT14 := lt_of h14_4
          have LT15 := lt_of h15_4
          have LT16 := lt_of h16_4
          have FRsz := Fr.size hfr4
          refine WD.region rfl ?_
          refine RL.val rfl (ex_loadB (by conv => lhs; whnf) Ybaf.sc46 h15_4 (by conv => lhs; whnf)) ?_
          refine RL.val rfl (ex_buildSlice1 (by conv => lhs; whnf) Ybaf.sl46 Ybaf.sz3 Ybaf.zo3 rfl rfl rfl (by first | (conv => lhs; simp only [sz_al, sz_sr, sz_dn]) | rfl)) ?_
          refine RL.append1at (n0 + 16) rfl Ybaf.sl46 Ybaf.in3 rfl rfl rfl (by conv => lhs; whnf) (by conv => lhs; whnf) (hos4.alloc _) (an' (by first | (simp only [sz_al, sz_sr, sz_dn]; done) | rfl | omega | (simp only [sz_al, sz_sr, sz_dn]; omega))) (by rfl) (by rfl) (by omega) (by rw [sz_al]; omega) ?_
          intro sv' W5 hos5 hgr5 hsv5 hat5
          obtain ⟨g5, cap5, rfl⟩ := hsv5
          refine RL.unit (ex_store (by conv => lhs; whnf) (by conv => lhs; whnf) Ybaf.sc46 rfl (gka hgr5 hos4 h15_4 rfl) rfl) ?_
          refine RL.nil ?_
          refine ⟨rfl, (wsOf (PL.take i)).length, 0, sizes (PL.take i) ++ [0], wv', .slice (some ⟨g5, 0, none⟩) ((wsOf (PL.take i)).length + 1) cap5, ⟨rfl, rfl, rfl, rfl, rfl, rfl, rfl, rfl, rfl, rfl, rfl, rfl, rfl, trivial⟩, (KO.set (KO.grown (KO.alloc hko4 _) hgr5 (hos4.alloc _) rfl) (gka hgr5 hos4 h15_4 rfl) rfl), (Fr.set (Fr.growna hfr4 hgr5 (fun kk hkk hlt => absurd (hos4.lt kk hkk).1 (by omega))) _ _ (fun hh => by first | exact rfl | exact .inl rfl | exact .inr (.inl rfl) | exact .inr (.inr rfl) | ((try simp only [sz_al, sz_sr, sz_dn] at hh); (try simp only [sz_al, sz_sr, sz_dn]); (first | omega | (dsimp only; omega) | exact .inl rfl | exact .inr (.inl rfl))))), ?_⟩
          rw [hw1]
          refine ⟨?_, by rw [List.length_append]; simp; have := hL.le; omega, (sr_ne (gka hgr5 hos4 h14_4 rfl) (by first | exact ne_of_type h14_4 h15_4 rfl | omega)), (sr_eq (gka hgr5 hos4 h15_4 rfl)), (sr_ne (gka hgr5 hos4 h16_4 rfl) (by first | exact ne_of_type h16_4 h15_4 rfl | omega)), ?_, ?_, ?_, ?_, by rw [hide, hw1, idx_new hs], by simp, ?_, Nat.zero_le _, by rw [htk]; exact sz_new hs⟩
          · obtain ⟨es, cl, m1, m2⟩ := hm4.ex
            exact ⟨es, cl, sr_ne_any (gk hgr5 (own_ne_lt hos4 (by omega)) (al m1)) (by omega), m2⟩
          · rw [List.length_append, List.flatMap_append]
            simp only [List.length_singleton, List.flatMap_cons, List.flatMap_nil, List.append_nil]
            exact own_sr (own_gka how4 hgr5 hos4 rfl) (own_ne_lt how4 (by omega))
          · rw [List.length_append]
            have e : szv (sizes (PL.take i) ++ [0]) = szv (sizes (PL.take i)) ++ [.int .i64 0] := by simp [szv]
            rw [e]
            exact own_sr hos5 (own_ne_lt hos5 (by omega))
          · exact own_sr ((hoi4.alloc _).kept hgr5 (ne_sym hL.ne)) (own_ne_lt hoi4 (by omega))
          · rcases hat5 with h | h
            · rw [h]; exact hL.ne
            · refine .inr (fun e => ?_)
              rw [h] at e
              have := (hoi4.lt _ e.symm).2
              rw [sz_al] at this
              omega
          · rw [List.getElem?_append_right (by rw [sizes_len]; omega), sizes_len]; simp
      rintro ds' F W2 ⟨rfl, id, c, szl, wv', sv', hF, hko2, hfr2', hm2, hle2, h14_2, h15_2, h16_2, how2, hos2, hoi2, hne2, hid, hidl, hc, hcl, hset⟩
      obtain ⟨G, rfl⟩ := hF.get
      clear hF
      have hsz2W := hfr2'.size
      obtain ⟨g, capS, cur, rfl, hgB, hgc, hgcap, hgs, hcur⟩ := own_open1 hos2 (by omega)
      have hcc : cur[id]? = some (.int .i64 ((c : Nat) : Int)) := hcur id _ (by simp [szv, hc])
      have hneg : some g ≠ iv.ownBlock := by
        rcases hne2 with h | h
        · cases h
        · exact h
      refine WD.seqc (fun ds'' F W3 => ds'' = ds' ∧ Has F [(0, .pointer (some ⟨bX, 0, none⟩)), (6, .pointer (some ⟨n0, 0, none⟩)), (7, .pointer (some ⟨n0 + 1, 0, none⟩)), (8, .pointer (some ⟨n0 + 2, 0, none⟩)), (9, .pointer (some ⟨n0 + 3, 0, none⟩)), (10, .pointer (some ⟨n0 + 4, 0, none⟩)), (11, .pointer (some ⟨n0 + 5, 0, none⟩)), (12, .pointer (some ⟨bc, 0, none⟩)), (13, .pointer (some ⟨n0 + 7, 0, none⟩)), (14, .pointer (some ⟨n0 + 8, 0, none⟩)), (15, .pointer (some ⟨n0 + 9, 0, none⟩)), (16, .pointer (some ⟨n0 + 10, 0, none⟩)), (19, .int .i64 (id : Nat))] ∧ KO kap w4.heap.size W' W3 ∧ Fr (fun k => n0 + 6 ≤ k ∧ k ≤ n0 + 10 ∧ k ≠ n0 + 7) w4 W3 ∧ MapW x W3 (n0 + 6) (wsOf (PL.take (i + 1))) ∧
        W3.heap[n0 + 8]? = some (.cells #[wv'] 87 (0, 0)) ∧ W3.heap[n0 + 9]? = some (.cells #[.slice (some ⟨g, 0, none⟩) (wsOf (PL.take (i + 1))).length capS] 46 (0, 0)) ∧ W3.heap[n0 + 10]? = some (.cells #[iv] 46 (0, 0)) ∧ W3.ownsRow (n0 + 16) 92 2 wv' (wsOf (PL.take (i + 1))).length ((wsOf (PL.take (i + 1))).flatMap (winCells x)) ∧ W3.ownsRow (n0 + 16) 3 1 (.slice (some ⟨g, 0, none⟩) (wsOf (PL.take (i + 1))).length capS) (wsOf (PL.take (i + 1))).length (szv (sizes (PL.take (i + 1)))) ∧
        W3.ownsRow (n0 + 16) 3 1 iv i (idsOf (wsOf PL) (PL.take i))) ?_ ?_
      · have LT14 := lt_of h14_2
        have LT15 := lt_of h15_2
        have LT16 := lt_of h16_2
        have LT901 := lt_of hgc
        have FRsz := Fr.size hfr2'
        refine WD.region rfl ?_
        refine RL.val rfl (ex_loadB (by conv => lhs; whnf) Ybaf.sc46 h15_2 (by conv => lhs; whnf)) ?_
        refine RL.val rfl (ex_move (by conv => lhs; whnf)) ?_
        refine RL.val rfl (ex_ix1 (by conv => lhs; whnf) (by conv => lhs; whnf) Ybaf.sl46 Ybaf.sz3 rfl (by omega)) ?_
        refine RL.val rfl (ex_load (by conv => lhs; whnf) Ybaf.sc3 (cellOf hgc hcc)) ?_
        refine RL.val rfl (ex_add (c := ((c + 1 : Nat) : Int)) (by conv => lhs; whnf) (by conv => lhs; whnf) (by rw [IntKind.wrap_i64]; omega)) ?_
        refine RL.val rfl (ex_ix1 (by conv => lhs; whnf) (by conv => lhs; whnf) Ybaf.sl46 Ybaf.sz3 rfl (by omega)) ?_
        refine RL.unit (ex_store (by conv => lhs; whnf) (by conv => lhs; whnf) Ybaf.sc3 rfl hgc (by simp; omega)) ?_
        refine RL.nil ?_
        refine ⟨rfl, ⟨rfl, rfl, rfl, rfl, rfl, rfl, rfl, rfl, rfl, rfl, rfl, rfl, rfl, trivial⟩, (KO.set hko2 hgc rfl), (Fr.set hfr2' _ _ (fun hh => by first | exact rfl | exact .inl rfl | exact .inr (.inl rfl) | exact .inr (.inr rfl) | ((try simp only [sz_al, sz_sr, sz_dn] at hh); (try simp only [sz_al, sz_sr, sz_dn]); (first | omega | (dsimp only; omega) | exact .inl rfl | exact .inr (.inl rfl))))), ?_, (sr_ne h14_2 (by first | exact ne_of_type h14_2 hgc rfl | omega)), (sr_ne h15_2 (by first | exact ne_of_type h15_2 hgc rfl | omega)), (sr_ne h16_2 (by first | exact ne_of_type h16_2 hgc rfl | omega)), own_sr how2 (own_ne how2 hgc rfl), ?_, own_sr hoi2 hneg⟩
        · obtain ⟨es, cl, m1, m2⟩ := hm2.ex
          exact ⟨es, cl, sr_ne_any m1 (by omega), m2⟩
        · have e : szv (sizes (PL.take (i + 1))) = (szv szl).set id (.int .i64 ((c + 1 : Nat) : Int)) := by rw [← hset]; simp [szv]
          rw [e]
          exact own_put hos2 hgc hidl
      rintro ds'' F W3 ⟨rfl, hF, hko3, hfr3', hm3, h14_3, h15_3, h16_3, how3, hos3, hoi3⟩
      obtain ⟨G, rfl⟩ := hF.get
      clear hF
      have hsz3W := hfr3'.size
      have LT14 := lt_of h14_3
      have LT15 := lt_of h15_3
      have LT16 := lt_of h16_3
      have FRsz := Fr.size hfr3'
      refine WD.region rfl ?_
      refine RL.val rfl (ex_loadB (by conv => lhs; whnf) Ybaf.sc46 h16_3 (by conv => lhs; whnf)) ?_
      refine RL.val rfl (ex_move (by conv => lhs; whnf)) ?_
      refine RL.val rfl (ex_buildSlice1 (by conv => lhs; whnf) Ybaf.sl46 Ybaf.sz3 Ybaf.zo3 rfl rfl rfl (by first | (conv => lhs; simp only [sz_al, sz_sr, sz_dn]) | rfl)) ?_
      refine RL.append1at (n0 + 16) rfl Ybaf.sl46 Ybaf.in3 rfl rfl rfl (by conv => lhs; whnf) (by conv => lhs; whnf) (hoi3.alloc _) (an' (by first | (simp only [sz_al, sz_sr, sz_dn]; done) | rfl | omega | (simp only [sz_al, sz_sr, sz_dn]; omega))) (by rfl) (by rfl) (by omega) (by rw [sz_al]; omega) ?_
      intro iv' W5 hoi5 hgr5 hsv5 hat5
      obtain ⟨g5, cap5, rfl⟩ := hsv5
      refine RL.unit (ex_store (by conv => lhs; whnf) (by conv => lhs; whnf) Ybaf.sc46 rfl (gka hgr5 hoi3 h16_3 rfl) rfl) ?_
      refine RL.nil ?_
      refine ⟨(KO.set (KO.grown (KO.alloc hko3 _) hgr5 (hoi3.alloc _) rfl) (gka hgr5 hoi3 h16_3 rfl) rfl), wv', _, .slice (some ⟨g5, 0, none⟩) (i + 1) cap5, ⟨(Fr.set (Fr.growna hfr3' hgr5 (fun kk hkk hlt => absurd (hoi3.lt kk hkk).1 (by omega))) _ _ (fun hh => by first | exact rfl | exact .inl rfl | exact .inr (.inl rfl) | exact .inr (.inr rfl) | ((try simp only [sz_al, sz_sr, sz_dn] at hh); (try simp only [sz_al, sz_sr, sz_dn]); (first | omega | (dsimp only; omega) | exact .inl rfl | exact .inr (.inl rfl))))), ?_, hle2, (sr_ne (gka hgr5 hoi3 h14_3 rfl) (by first | exact ne_of_type h14_3 h16_3 rfl | omega)), (sr_ne (gka hgr5 hoi3 h15_3 rfl) (by first | exact ne_of_type h15_3 h16_3 rfl | omega)), (sr_eq (gka hgr5 hoi3 h16_3 rfl)), own_sr (own_gka how3 hgr5 hoi3 rfl) (own_ne_lt how3 (by omega)), own_sr ((hos3.alloc _).kept hgr5 (.inr hneg)) (own_ne_lt hos3 (by omega)), ?_, .inr ?_⟩⟩
      · obtain ⟨es, cl, m1, m2⟩ := hm3.ex
        exact ⟨es, cl, sr_ne_any (gk hgr5 (own_ne_lt hoi3 (by omega)) (al m1)) (by omega), m2⟩
      · have e : idsOf (wsOf PL) (PL.take (i + 1)) = idsOf (wsOf PL) (PL.take i) ++ [.int .i64 (id : Nat)] := by rw [htk, hid]; simp [idsOf]
        rw [e]
        exact own_sr hoi5 (own_ne_lt hoi5 (by omega))
      · rcases hat5 with h | h
        · rw [h]; exact hneg
        · rw [h]
          intro e
          have := (hos3.lt _ e).2
          rw [sz_al] at this
          omega
    · rintro D W hD ⟨wv, sv, iv, hL⟩ hDb
      exact ⟨D, rfl, hDb, by omega, ⟨rfl, rfl, rfl, rfl, rfl, rfl, rfl, rfl, rfl, rfl, rfl, rfl, trivial⟩, (hf4.mono (fun _ _ h => h.elim)).trans hL.fr (fun _ _ h => h), wv, sv, iv, ⟨Fr.refl _, hL.map, hL.le, hL.h14, hL.h15, hL.h16, hL.ow, hL.os, hL.oi, hL.ne⟩⟩
    · rintro D c W hD ⟨rfl, hfx, hx10, hx11, hmo⟩ hDb
      refine WD.ret ?_
      repeat (first | refine thenD_ret ?_ | refine blockD_ret ?_)
      refine ⟨[D], rfl, ⟨by simp, fun D' h => by rw [List.mem_singleton.1 h]; exact hDb⟩, fun wF hF => ?_⟩
      have hit : ItS (n0 + 16) W wF := hF.mono (fun k _ hk => by rw [List.mem_singleton.1 hk]; exact ⟨by omega, _, hDb, rfl⟩)
      refine ⟨_, results_cells2 rfl rfl rfl Ybaf.sc46 Ybaf.sc4 (hit.cells hx10) (hit.cells hx11), .inl ⟨hmo, ⟨_, rfl⟩, ?_⟩⟩
      exact (hf1.trans hf14 (fun _ _ h => h)).trans (hit.fr hfx (by omega)) (fun k hk h => by omega)
  rintro ds F w5 ⟨D1, rfl, hD1, hD1n, hF, hf35, wv, sv, iv, hL⟩
  obtain ⟨G, rfl⟩ := hF.get
  clear hF
  have htake : PL.take PL.length = PL := List.take_length
  have hmap5 := hL.le
  have how5 := hL.ow
  have hos5 := hL.os
  have hoi5 := hL.oi
  rw [htake] at hmap5 how5 hos5 hoi5
  have h14_5 := hL.h14
  have h15_5 := hL.h15
  have h16_5 := hL.h16
  have hf05 : Fr (fun _ => False) w w5 := hf03.trans hf35 (fun k hk h => by omega)
  have h6_5 := hf35.keep h6' (by omega)
  have h7_5 := hf35.keep h7' (by omega)
  have h8_5 := hf35.keep (hf13.keep h8 id) (by omega)
  have h10_5 := hf35.keep (hf13.keep h10 id) (by omega)
  have h11_5 := hf35.keep (hf13.keep h11 id) (by omega)
  have hX5 := hf05.keep hX id
  have hR5 := hf05.keep hR id
  have hD1lt := lt_of hD1
  clear hL
  obtain ⟨m0, hm0⟩ : ∃ m0, m0 = w5.heap.size := ⟨_, rfl⟩
  obtain ⟨nW, hnW⟩ : ∃ nW, nW = (wsOf PL).length := ⟨_, rfl⟩
  have hws : (wsOf PL).length ≤ PL.length := ws_len
  rw [← hnW] at how5 hos5 hmap5
  obtain ⟨wa, wc, hwv, _⟩ := own_value how5
  subst hwv
  obtain ⟨sa, sc, hsv, _⟩ := own_value hos5
  subst hsv
  have hfr5 : Fr (fun _ => False) w5 w5 := Fr.refl w5
  refine WD.seq ?_
  have LT8 := lt_of h8_5
  have LT14 := lt_of h14_5
  have LT15 := lt_of h15_5
  have FRsz := Fr.size hfr5
  refine WD.region rfl ?_
  refine RL.val rfl (ex_loadB (by conv => lhs; whnf) Ybaf.sc46 h8_5 (by conv => lhs; whnf)) ?_
  refine RL.val rfl (ex_len (by conv => lhs; whnf) Ybaf.sl46) ?_
  refine RL.val rfl (ex_assign (by conv => lhs; whnf)) ?_
  refine RL.nil ?_
  refine WD.seq ?_
  refine WD.region rfl ?_
  refine RL.val rfl (ex_loadB (by conv => lhs; whnf) Ybaf.sc87 h14_5 (by conv => lhs; whnf)) ?_
  refine RL.val rfl (ex_len (by conv => lhs; whnf) Ybaf.sl87) ?_
  refine RL.val rfl (ex_makeSlice (l := nW) (c := nW) (q := m0) (by conv => lhs; whnf) (by conv => lhs; whnf) Ybaf.sl46 Ybaf.in3 (Nat.le_refl _) (by omega) (by omega) hm0.symm) ?_
  refine RL.val rfl (ex_alloc Ybaf.zo46 (q := m0 + 1) (by rw [sz_al]; omega)) ?_
  refine RL.unit (ex_store (by conv => lhs; whnf) (by conv => lhs; whnf) Ybaf.sc46 rfl (an' (by first | (simp only [sz_al, sz_sr, sz_dn]; done) | rfl | omega | (simp only [sz_al, sz_sr, sz_dn]; omega))) rfl) ?_
  refine RL.nil ?_
  refine WD.seq ?_
  refine WD.region rfl ?_
  refine RL.val rfl (ex_move (by conv => lhs; whnf)) ?_
  refine RL.val rfl (ex_assign (by conv => lhs; whnf)) ?_
  refine RL.nil ?_
  refine WD.seqc (fun ds F w6 => ds = [Eng.mark D1] ∧ Has F [(0, .pointer (some ⟨bX, 0, none⟩)), (6, .pointer (some ⟨n0, 0, none⟩)), (7, .pointer (some ⟨n0 + 1, 0, none⟩)), (8, .pointer (some ⟨n0 + 2, 0, none⟩)), (9, .pointer (some ⟨n0 + 3, 0, none⟩)), (10, .pointer (some ⟨n0 + 4, 0, none⟩)), (11, .pointer (some ⟨n0 + 5, 0, none⟩)), (12, .pointer (some ⟨bc, 0, none⟩)), (13, .pointer (some ⟨n0 + 7, 0, none⟩)), (14, .pointer (some ⟨n0 + 8, 0, none⟩)), (15, .pointer (some ⟨n0 + 9, 0, none⟩)), (16, .pointer (some ⟨n0 + 10, 0, none⟩)), (21, .int .i64 (used : Nat)), (22, .pointer (some ⟨m0 + 1, 0, none⟩)), (23, .int .i64 ((used + PL.length : Nat) : Int))] ∧ w6.heap.size = m0 + 2 ∧ Fr (fun _ => False) w5 w6 ∧ (∃ cE : Array Value, w6.heap[m0]? = some (.cells cE 3 (0, 0)) ∧ cE.size = (wsOf PL).length ∧ ∀ id, id < (wsOf PL).length → cE[id]? = some (.int .i64 ((used + offG PL id : Nat) : Int))) ∧ w6.heap[m0 + 1]? = some (.cells #[.slice (some ⟨m0, 0, none⟩) nW nW] 46 (0, 0))) ?_ ?_
  · --BEGIN ends
    refine WD.seq ?_
    refine WD.region rfl ?_
    refine RL.val rfl (ex_loadB (by conv => lhs; whnf) Ybaf.sc46 (sr_ne (al (al h15_5)) (by (try simp only [sz_al, sz_sr, sz_dn]); omega)) (by conv => lhs; whnf)) ?_
    refine RL.val rfl (ex_len (by conv => lhs; whnf) Ybaf.sl46) ?_
    refine RL.val rfl (ex_move (by conv => lhs; whnf)) ?_
    refine RL.nil ?_
    refine WD.block ?_
    refine WD.loopk (fun m ds F w6 => ∃ (i : Nat) (cE : Array Value), m = nW - i ∧ i ≤ nW ∧ ds = [Eng.mark D1] ∧ Has F [(0, .pointer (some ⟨bX, 0, none⟩)), (6, .pointer (some ⟨n0, 0, none⟩)), (7, .pointer (some ⟨n0 + 1, 0, none⟩)), (8, .pointer (some ⟨n0 + 2, 0, none⟩)), (9, .pointer (some ⟨n0 + 3, 0, none⟩)), (10, .pointer (some ⟨n0 + 4, 0, none⟩)), (11, .pointer (some ⟨n0 + 5, 0, none⟩)), (12, .pointer (some ⟨bc, 0, none⟩)), (13, .pointer (some ⟨n0 + 7, 0, none⟩)), (14, .pointer (some ⟨n0 + 8, 0, none⟩)), (15, .pointer (some ⟨n0 + 9, 0, none⟩)), (16, .pointer (some ⟨n0 + 10, 0, none⟩)), (21, .int .i64 (used : Nat)), (22, .pointer (some ⟨m0 + 1, 0, none⟩)), (23, .int .i64 ((used + offG PL i : Nat) : Int)), (93, .slice sa nW sc), (94, .int .i64 (nW : Nat)), (95, .int .i64 (i : Nat))] ∧ w6.heap.size = m0 + 2 ∧ Fr (fun _ => False) w5 w6 ∧ w6.heap[m0]? = some (.cells cE 3 (0, 0)) ∧ cE.size = nW ∧ (∀ id, id < i → cE[id]? = some (.int .i64 ((used + offG PL id : Nat) : Int))) ∧ w6.heap[m0 + 1]? = some (.cells #[.slice (some ⟨m0, 0, none⟩) nW nW] 46 (0, 0))) nW
      ⟨0, _, rfl, Nat.zero_le _, rfl, ⟨rfl, rfl, rfl, rfl, rfl, rfl, rfl, rfl, rfl, rfl, rfl, rfl, rfl, rfl, (by rw [offG_zero]; rfl), rfl, rfl, rfl, trivial⟩, by simp only [sz_al, sz_sr]; omega, (Fr.set (Fr.alloc (Fr.alloc hfr5 _) _) _ _ (fun hh => by first | exact rfl | exact .inl rfl | exact .inr (.inl rfl) | exact .inr (.inr rfl) | ((try simp only [sz_al, sz_sr, sz_dn] at hh); (try simp only [sz_al, sz_sr, sz_dn]); (first | omega | (dsimp only; omega) | exact .inl rfl | exact .inr (.inl rfl))))), (sr_ne (al (an' (by first | (simp only [sz_al, sz_sr, sz_dn]; done) | rfl | omega | (simp only [sz_al, sz_sr, sz_dn]; omega)))) (by (try simp only [sz_al, sz_sr, sz_dn]); omega)), by rw [size_madeCells]; omega, fun id h => by omega, (sr_eq (an' (by first | (simp only [sz_al, sz_sr, sz_dn]; done) | rfl | omega | (simp only [sz_al, sz_sr, sz_dn]; omega))))⟩ ?_
    rintro m ds F w6 ⟨i, cE, rfl, hi, rfl, hF, hsz6, hf6, hcE, hcEs, hcEv, h22⟩ K hK
    obtain ⟨G, rfl⟩ := hF.get
    clear hF
    refine WD.seq ?_
    have LT22 := lt_of h22
    have LT901 := lt_of hcE
    have FRsz := Fr.size hf6
    refine WD.region rfl ?_
    refine RL.val rfl (ex_lss (by conv => lhs; whnf) (by conv => lhs; whnf)) ?_
    refine RL.nil ?_
    refine WD.seq ?_
    refine WD.cond _ (by conv => lhs; whnf) (fun hlt1 => ?_) (fun hlt1 => ?_)
    rotate_left
    · have hik : i = nW := by have := of_decide_eq_false hlt1; omega
      refine WD.exit ?_
      repeat (first | refine thenD_exit ?_ | refine blockD_hit ?_ | refine blockD_miss rfl ?_)
      refine ⟨rfl, ⟨rfl, rfl, rfl, rfl, rfl, rfl, rfl, rfl, rfl, rfl, rfl, rfl, rfl, rfl, ?_, trivial⟩, hsz6, hf6, ⟨cE, hcE, by omega, fun id h => hcEv id (by omega)⟩, h22⟩
      rw [hik, hnW, offG_end]
      rfl
    have hik : i < nW := by have := of_decide_eq_true hlt1; omega
    obtain ⟨c, hc⟩ : ∃ c, (sizes PL)[i]? = some c := ⟨_, List.getElem?_eq_getElem (by rw [sizes_len]; omega)⟩
    have hoff := offG_succ hc
    have hoffl := offG_le PL (i + 1)
    have hos6 := hf6.own hos5 (fun _ _ => id)
    obtain ⟨g, capS, cur, hsa, hgB, hgc, hgcap, hgs, hcur⟩ := own_open1 hos6 (by omega)
    cases hsa
    have hcc : cur[i]? = some (.int .i64 ((c : Nat) : Int)) := hcur i _ (by simp [szv, hc])
    refine WD.skip ?_
    refine WD.seq ?_
    refine WD.block ?_
    refine WD.seq ?_
    refine WD.region rfl ?_
    refine RL.val rfl (ex_move (by conv => lhs; whnf)) ?_
    refine RL.val rfl (ex_ix1 (by conv => lhs; whnf) (by conv => lhs; whnf) Ybaf.sl46 Ybaf.sz3 rfl (by omega)) ?_
    refine RL.val rfl (ex_load (by conv => lhs; whnf) Ybaf.sc3 (cellOf hgc hcc)) ?_
    refine RL.val rfl (ex_assign (by conv => lhs; whnf)) ?_
    refine RL.val rfl (ex_assign (by conv => lhs; whnf)) ?_
    refine RL.nil ?_
    refine WD.seq ?_
    refine WD.region rfl ?_
    refine RL.val rfl (ex_loadB (by conv => lhs; whnf) Ybaf.sc46 h22 (by conv => lhs; whnf)) ?_
    refine RL.val rfl (ex_move (by conv => lhs; whnf)) ?_
    refine RL.val rfl (ex_move (by conv => lhs; whnf)) ?_
    refine RL.val rfl (ex_ix1 (by conv => lhs; whnf) (by conv => lhs; whnf) Ybaf.sl46 Ybaf.sz3 rfl (by omega)) ?_
    refine RL.unit (ex_store (by conv => lhs; whnf) (by conv => lhs; whnf) Ybaf.sc3 rfl hcE (by simp; omega)) ?_
    refine RL.nil ?_
    refine WD.region rfl ?_
    refine RL.val rfl (ex_move (by conv => lhs; whnf)) ?_
    refine RL.val rfl (ex_move (by conv => lhs; whnf)) ?_
    refine RL.val rfl (ex_add (c := ((used + offG PL (i + 1) : Nat) : Int)) (by conv => lhs; whnf) (by conv => lhs; whnf) (by rw [IntKind.wrap_i64]; omega)) ?_
    refine RL.val rfl (ex_assign (by conv => lhs; whnf)) ?_
    refine RL.nil ?_
    refine WD.region rfl ?_
    refine RL.val rfl (ex_add (c := ((i + 1 : Nat) : Int)) (by conv => lhs; whnf) (by conv => lhs; whnf) (by rw [IntKind.wrap_i64]; omega)) ?_
    refine RL.val rfl (ex_move (by conv => lhs; whnf)) ?_
    refine RL.nil ?_
    refine hK (nW - (i + 1)) _ _ _ (by omega) ⟨i + 1, _, rfl, by omega, rfl, ⟨rfl, rfl, rfl, rfl, rfl, rfl, rfl, rfl, rfl, rfl, rfl, rfl, rfl, rfl, rfl, rfl, rfl, rfl, trivial⟩, by rw [sz_sr]; exact hsz6, (Fr.set hf6 _ _ (fun hh => by first | exact rfl | exact .inl rfl | exact .inr (.inl rfl) | exact .inr (.inr rfl) | ((try simp only [sz_al, sz_sr, sz_dn] at hh); (try simp only [sz_al, sz_sr, sz_dn]); (first | omega | (dsimp only; omega) | exact .inl rfl | exact .inr (.inl rfl))))), (sr_eq hcE), by simp [hcEs], fun id hid => ?_, (sr_ne h22 (by first | exact ne_of_type h22 hcE rfl | omega))⟩
    by_cases hji : id = i
    · subst hji
      rw [Array.getElem?_setIfInBounds_self_of_lt (by omega)]
    · rw [Array.getElem?_setIfInBounds_ne (by omega)]
      exact hcEv id (by omega)
  rintro ds F w6 ⟨rfl, hF, hsz6, hf6, ⟨cE, hcE, hcEs, hcEv⟩, h22⟩
  obtain ⟨G, rfl⟩ := hF.get
  clear hF
  have hpl0 : Placed PL used cap c0 c0 cE 0 := Placed.start hcs hcEs hcEv
  have h8_6 := hf6.keep h8_5 id
  have h6_6 := hf6.keep h6_5 id
  have h7_6 := hf6.keep h7_5 id
  have hX6 := hf6.keep hX5 id
  have hfr6 : Fr (fun k => k = n0 + 2) w6 w6 := Fr.refl w6
  have hXne : bX ≠ n0 + 2 := by omega
  refine WD.seq ?_
  have LT8 := lt_of h8_6
  have LT22 := lt_of h22
  have FRsz := Fr.size hfr6
  refine WD.region rfl ?_
  refine RL.val rfl (ex_loadB (by conv => lhs; whnf) Ybaf.sc46 h8_6 (by conv => lhs; whnf)) ?_
  refine RL.val rfl (ex_move (by conv => lhs; whnf)) ?_
  refine RL.val rfl (ex_slice_h (by conv => lhs; whnf) (by conv => lhs; whnf) Ybaf.sl46 Ybaf.sz3 (by omega)) ?_
  refine RL.unit (ex_store (by conv => lhs; whnf) (by conv => lhs; whnf) Ybaf.sc46 rfl h8_6 rfl) ?_
  refine RL.nil ?_
  refine WD.seqc (fun ds F w7 => ds = [Eng.mark D1] ∧ Has F [(0, .pointer (some ⟨bX, 0, none⟩)), (6, .pointer (some ⟨n0, 0, none⟩)), (7, .pointer (some ⟨n0 + 1, 0, none⟩)), (8, .pointer (some ⟨n0 + 2, 0, none⟩)), (9, .pointer (some ⟨n0 + 3, 0, none⟩)), (10, .pointer (some ⟨n0 + 4, 0, none⟩)), (11, .pointer (some ⟨n0 + 5, 0, none⟩)), (12, .pointer (some ⟨bc, 0, none⟩)), (13, .pointer (some ⟨n0 + 7, 0, none⟩)), (14, .pointer (some ⟨n0 + 8, 0, none⟩)), (15, .pointer (some ⟨n0 + 9, 0, none⟩)), (16, .pointer (some ⟨n0 + 10, 0, none⟩)), (21, .int .i64 (used : Nat)), (22, .pointer (some ⟨m0 + 1, 0, none⟩)), (26, .pointer (some ⟨m0 + 2, 0, none⟩))] ∧ w7.heap.size = m0 + 3 ∧ Fr (fun k => k = n0 + 2) w6 w7 ∧ w7.heap[n0 + 2]? = some (.cells #[.slice (some ⟨bR, 0, none⟩) (used + PL.length) cap] 46 (0, 0)) ∧ w7.heap[m0 + 2]? = some (.cells #[.int .i64 0] 3 (0, 0))) ?_ ?_
  · refine WD.region rfl ?_
    refine RL.val rfl (ex_alloc Ybaf.zo3 (q := m0 + 2) (by rw [sz_sr]; omega)) ?_
    refine RL.unit (ex_store (by conv => lhs; whnf) (by conv => lhs; whnf) Ybaf.sc3 rfl (an' (by first | (simp only [sz_al, sz_sr, sz_dn]; done) | rfl | omega | (simp only [sz_al, sz_sr, sz_dn]; omega))) rfl) ?_
    refine RL.nil ?_
    exact ⟨rfl, ⟨rfl, rfl, rfl, rfl, rfl, rfl, rfl, rfl, rfl, rfl, rfl, rfl, rfl, rfl, rfl, trivial⟩, by simp only [sz_al, sz_sr]; omega, (Fr.set (Fr.alloc (Fr.set hfr6 _ _ (fun hh => by first | exact rfl | exact .inl rfl | exact .inr (.inl rfl) | exact .inr (.inr rfl) | ((try simp only [sz_al, sz_sr, sz_dn] at hh); (try simp only [sz_al, sz_sr, sz_dn]); (first | omega | (dsimp only; omega) | exact .inl rfl | exact .inr (.inl rfl))))) _) _ _ (fun hh => by first | exact rfl | exact .inl rfl | exact .inr (.inl rfl) | exact .inr (.inr rfl) | ((try simp only [sz_al, sz_sr, sz_dn] at hh); (try simp only [sz_al, sz_sr, sz_dn]); (first | omega | (dsimp only; omega) | exact .inl rfl | exact .inr (.inl rfl))))), (sr_ne (al (sr_eq h8_6)) (by (try simp only [sz_al, sz_sr, sz_dn]); omega)), (sr_eq (an' (by first | (simp only [sz_al, sz_sr, sz_dn]; done) | rfl | omega | (simp only [sz_al, sz_sr, sz_dn]; omega))))⟩
  rintro ds F w7 ⟨rfl, hF, hsz7, hf7, h8_7, h26_7⟩
  obtain ⟨G, rfl⟩ := hF.get
  clear hF
  have h6_7 := hf7.keep h6_6 (by omega)
  have h7_7 := hf7.keep h7_6 (by omega)
  have hX7 := hf7.keep hX6 (by omega)
  have h22_7 := hf7.keep h22 (by omega)
  have hcE_7 := hf7.keep hcE (by omega)
  have hR_7 := hf7.keep (hf6.keep hR5 id) (by omega)
  have hf07 : Fr (fun _ => False) w w7 := (hf05.trans hf6 (fun _ _ h => h)).trans hf7 (fun k hk h => by omega)
  refine WD.seqc (fun ds F w9 => ∃ D2, ds = [Eng.mark D2, Eng.mark D1] ∧ w9.heap[D2]? = some (.deferred (some [])) ∧ m0 + 8 ≤ D2 ∧ Has F [(0, .pointer (some ⟨bX, 0, none⟩)), (6, .pointer (some ⟨n0, 0, none⟩)), (7, .pointer (some ⟨n0 + 1, 0, none⟩)), (8, .pointer (some ⟨n0 + 2, 0, none⟩)), (9, .pointer (some ⟨n0 + 3, 0, none⟩)), (10, .pointer (some ⟨n0 + 4, 0, none⟩)), (11, .pointer (some ⟨n0 + 5, 0, none⟩)), (12, .pointer (some ⟨bc, 0, none⟩)), (13, .pointer (some ⟨n0 + 7, 0, none⟩)), (14, .pointer (some ⟨n0 + 8, 0, none⟩)), (15, .pointer (some ⟨n0 + 9, 0, none⟩)), (16, .pointer (some ⟨n0 + 10, 0, none⟩)), (21, .int .i64 (used : Nat)), (22, .pointer (some ⟨m0 + 1, 0, none⟩))] ∧ Fr (fun k => k = bR ∨ k = m0 ∨ k = m0 + 2) w7 w9 ∧ ∃ cR cE' : Array Value, w9.heap[bR]? = some (.cells cR 3 (0, 0)) ∧ w9.heap[m0]? = some (.cells cE' 3 (0, 0)) ∧ Placed PL used cap c0 cR cE' PL.length) ?_ ?_
  · --BEGIN loop2
    refine WD.seqc (fun ds F w8 => ds = [Eng.mark D1] ∧ Has F [(0, .pointer (some ⟨bX, 0, none⟩)), (6, .pointer (some ⟨n0, 0, none⟩)), (7, .pointer (some ⟨n0 + 1, 0, none⟩)), (8, .pointer (some ⟨n0 + 2, 0, none⟩)), (9, .pointer (some ⟨n0 + 3, 0, none⟩)), (10, .pointer (some ⟨n0 + 4, 0, none⟩)), (11, .pointer (some ⟨n0 + 5, 0, none⟩)), (12, .pointer (some ⟨bc, 0, none⟩)), (13, .pointer (some ⟨n0 + 7, 0, none⟩)), (14, .pointer (some ⟨n0 + 8, 0, none⟩)), (15, .pointer (some ⟨n0 + 9, 0, none⟩)), (16, .pointer (some ⟨n0 + 10, 0, none⟩)), (21, .int .i64 (used : Nat)), (22, .pointer (some ⟨m0 + 1, 0, none⟩)), (26, .pointer (some ⟨m0 + 2, 0, none⟩)), (119, (.func (.func 31) #[] #[.pointer (some ⟨m0 + 7, 0, none⟩), .pointer (some ⟨m0 + 6, 0, none⟩), .pointer (some ⟨m0 + 5, 0, none⟩)]))] ∧ Fr (fun _ => False) w7 w8 ∧ w8.heap.size = m0 + 8 ∧ MfP B T p (m0 + 3) (m0 + 4) rv (.slice (some ⟨bT, 0, none⟩) T.length T.length) t bc x (m0 + 7) (m0 + 6) (m0 + 5) w8) ?_ ?_
    · have hfr7 : Fr (fun _ => False) w7 w7 := Fr.refl w7
      have LT0 := lt_of hX7
      have LT6 := lt_of h6_7
      have LT7 := lt_of h7_7
      have FRsz := Fr.size hfr7
      refine WD.draw [] rfl (by kernel_rfl) ?_
      refine AE.take 0 rfl (by kernel_rfl) rfl (fun w' hw => ex_loadW (by conv => lhs; whnf) (hw.keep h7_7) Ybaf.ag32 (by rfl)) (Ext.drew (Ext.refl _) 1) ?_
      refine AE.take 1 rfl (by kernel_rfl) rfl (fun w' hw => ex_move (by conv => lhs; whnf)) (Ext.drew (Ext.refl _) 1) ?_
      refine AE.take 2 rfl (by kernel_rfl) rfl (fun w' hw => ex_loadW (by conv => lhs; whnf) (hw.keep h6_7) Ybaf.ag48 (by rfl)) (Ext.drew (Ext.refl _) 1) ?_
      refine AE.take 3 rfl (by kernel_rfl) rfl (fun w' hw => ex_move (by conv => lhs; whnf)) (Ext.drew (Ext.refl _) 1) ?_
      refine AE.take 4 rfl (by kernel_rfl) rfl (fun w' hw => ex_nilCheck (by conv => lhs; whnf)) (Ext.drew (Ext.refl _) 1) ?_
      refine AE.take 5 rfl (by kernel_rfl) rfl (fun w' hw => ex_fieldAddr (by conv => lhs; whnf) Ybaf.fo42_0) (Ext.drew (Ext.refl _) 1) ?_
      refine AE.take 6 rfl (by kernel_rfl) rfl (fun w' hw => ex_loadB (by conv => lhs; whnf) Ybaf.sc27 (hw.keep hX7) (by conv => lhs; whnf)) (Ext.drew (Ext.refl _) 1) ?_
      refine AE.call 7 rfl (by kernel_rfl) rfl (ex_call2 rfl (by rfl) (by conv => lhs; whnf) Ybaf.fun13) (rowsIn (p := p) (rv := rv) rfl) ?_
      rintro v w3' ⟨rfl, hbp, hbq, hsz3', hf3'⟩
      refine ⟨fun _ => Ext.trans (Ext.drew (Ext.refl _) 1) (Ext.of_fr hf3'), ?_⟩
      refine AE.call 8 rfl (by kernel_rfl) rfl (ex_call3 rfl (by rfl) (by conv => lhs; whnf) (by conv => lhs; whnf) Ybaf.fun28) (placements (x := x) rfl rfl) ?_
      rintro v w4 ⟨rfl, hb3, hb2, hb1, hsz4, hf4⟩
      refine ⟨fun _ => Ext.trans (Ext.trans (Ext.drew (Ext.refl _) 1) (Ext.of_fr hf3')) (Ext.of_fr hf4), ?_⟩
      refine AE.nil (by kernel_rfl) ?_
      have hfr4 : Fr (fun _ => False) w w4 := hf07.trans (Fr.trans (Fr.trans (Fr.drew hfr7 1) hf3' (fun _ _ h => h)) hf4 (fun _ _ h => h)) (fun _ _ h => h)
      rw [sz_dn, hsz7] at hbp hbq hsz3'
      rw [hsz3'] at hb1 hb2 hb3 hsz4
      exact ⟨rfl, ⟨rfl, rfl, rfl, rfl, rfl, rfl, rfl, rfl, rfl, rfl, rfl, rfl, rfl, rfl, rfl, (by simp only [sz_dn, hsz7, hsz3']; rfl), trivial⟩, (Fr.trans (Fr.trans (Fr.drew hfr7 1) hf3' (fun _ _ h => h)) hf4 (fun _ _ h => h)), hsz4, ⟨⟨hf4.keep hbp id, hf4.keep hbq id, hr.keep (Fr.up hfr4), ht.keep (Fr.up hfr4)⟩, by simpa only [sz_dn, hsz7] using hb1, hb2, hb3, htab.col.keep (Fr.up hfr4)⟩⟩
    rintro ds F w8 ⟨rfl, hF, hf8, hsz8, hmf⟩
    obtain ⟨G, rfl⟩ := hF.get
    clear hF
    have hf68 := hf7.trans hf8 (S := fun k => k = n0 + 2) (fun _ _ h => h.elim)
    have h8w := hf8.keep h8_7 id
    have h22w := hf8.keep h22_7 id
    have h26w := hf8.keep h26_7 id
    have hcEw := hf8.keep hcE_7 id
    have hRw := hf8.keep hR_7 id
    have h16w := hf68.keep (hf6.keep h16_5 id) (by omega)
    have hoi8 := hf68.own (hf6.own hoi5 (fun _ _ => id)) (fun k hk => by have := (hoi5.lt k hk).1; omega)
    have it := iterPl (B := B) (bp := m0 + 3) (bq := m0 + 4) (bc := bc) (b1 := m0 + 7) (b2 := m0 + 6) (b3 := m0 + 5) (rv := rv) (tv := (.slice (some ⟨bT, 0, none⟩) T.length T.length)) hti hok hx hlen hrs
    rw [← hPL] at it
    refine WD.block ?_
    refine WD.range kap_nc (len := PL.length) (enc := encP x PL) (Mf := MfP B T p (m0 + 3) (m0 + 4) rv (.slice (some ⟨bT, 0, none⟩) T.length T.length) t bc x (m0 + 7) (m0 + 6) (m0 + 5)) rfl Ybaf.fun31 it (fun _ _ => rfl) (fun _ _ => rfl)
      (fun k W => Fr (fun k => k = bR ∨ k = m0 ∨ k = m0 + 2) w8 W ∧ W.heap[m0 + 2]? = some (.cells #[.int .i64 (k : Nat)] 3 (0, 0)) ∧ ∃ cR cE' : Array Value, W.heap[bR]? = some (.cells cR 3 (0, 0)) ∧ W.heap[m0]? = some (.cells cE' 3 (0, 0)) ∧ Placed PL used cap c0 cR cE' k)
      (fun c W => False)
      (fun k F' W => Has F' [(0, .pointer (some ⟨bX, 0, none⟩)), (6, .pointer (some ⟨n0, 0, none⟩)), (7, .pointer (some ⟨n0 + 1, 0, none⟩)), (8, .pointer (some ⟨n0 + 2, 0, none⟩)), (9, .pointer (some ⟨n0 + 3, 0, none⟩)), (10, .pointer (some ⟨n0 + 4, 0, none⟩)), (11, .pointer (some ⟨n0 + 5, 0, none⟩)), (12, .pointer (some ⟨bc, 0, none⟩)), (13, .pointer (some ⟨n0 + 7, 0, none⟩)), (14, .pointer (some ⟨n0 + 8, 0, none⟩)), (15, .pointer (some ⟨n0 + 9, 0, none⟩)), (16, .pointer (some ⟨n0 + 10, 0, none⟩)), (21, .int .i64 (used : Nat)), (22, .pointer (some ⟨m0 + 1, 0, none⟩)), (26, .pointer (some ⟨m0 + 2, 0, none⟩)), (27, .int .i64 (((PL.getD k (0, 0)).1 : Nat) : Int))] ∧ Fr (fun k => k = bR ∨ k = m0 ∨ k = m0 + 2) w8 W ∧ W.heap[m0 + 2]? = some (.cells #[.int .i64 (k : Nat)] 3 (0, 0)) ∧ ∃ cR cE' : Array Value, W.heap[bR]? = some (.cells cR 3 (0, 0)) ∧ W.heap[m0]? = some (.cells cE' 3 (0, 0)) ∧ Placed PL used cap c0 cR cE' k)
      (fun i W ⟨h, _⟩ => hmf.keepS h (fun k hk => by omega) (by omega) (by omega) (by omega) (by omega) (by omega))
      (fun i W1 W2 ⟨h, h1, cR, cE', h2, h3, h4⟩ hs => ⟨hs.fr h (by omega), hs.cells h1, cR, cE', hs.cells h2, hs.cells h3, h4⟩)
      (fun c W1 W2 h hs => h)
      (fun i F' W1 W2 ⟨h0, h, h1, cR, cE', h2, h3, h4⟩ hs => ⟨h0, hs.fr h (by omega), hs.cells h1, cR, cE', hs.cells h2, hs.cells h3, h4⟩)
      ⟨Fr.refl w8, h26w, c0, cE, hRw, hcEw, hpl0⟩ ?_ ?_ ?_ ?_
    · rintro l i W hi hl2 hI
      refine WD.region rfl ?_
      refine RL.val rfl (ex_assign (by conv => lhs; whnf)) ?_
      refine RL.nil ?_
      exact ⟨KO.refl _ _ _, ⟨rfl, rfl, rfl, rfl, rfl, rfl, rfl, rfl, rfl, rfl, rfl, rfl, rfl, rfl, rfl, rfl, trivial⟩, hI⟩
    · rintro l i F' W hi hl2 ⟨rr, hrr⟩ ⟨hF, hfr, h26, cR, cE', hcR, hcE', hP⟩ dd
      obtain ⟨⟨r, s⟩, hq⟩ : ∃ q, PL[i]? = some q := ⟨_, List.getElem?_eq_getElem hi⟩
      have hg : PL.getD i (0, 0) = (r, s) := by rw [List.getD_eq_getElem?_getD, hq]; rfl
      rw [hg] at hF
      dsimp only at hF
      obtain ⟨G, rfl⟩ := hF.get
      clear hF
      have h8W := hfr.keep h8w (by omega)
      have h22W := hfr.keep h22w (by omega)
      have h16W := hfr.keep h16w (by omega)
      have hoiW := hfr.own hoi8 (fun k hk => by have := hoi5.lt k hk; omega)
      obtain ⟨gi, capI, curI, rfl, hgiB, hgic, hgicap, hgis, hcurI⟩ := own_open1 hoiW (by omega)
      obtain ⟨id, hid⟩ : ∃ id, id = (wsOf PL).idxOf s := ⟨_, rfl⟩
      have hmem := ws_mem hq
      have hidl : id < nW := by rw [hid, hnW]; exact List.idxOf_lt_length_of_mem hmem
      have hci : curI[i]? = some (.int .i64 ((id : Nat) : Int)) := hcurI i _ (by simp [idsOf, hq, hid])
      have hgw : gi < m0 := by have := (hoi5.lt gi rfl).2; omega
      have hpos := Placed.pos (used := used) (cap := cap) hq
      rw [← hid] at hpos
      have hce : cE'[id]? = some (.int .i64 ((used + offG PL id + (grp (PL.take i) s).length : Nat) : Int)) := hP.ends id s (by rw [hid]; exact ws_idx hmem)
      have hst := hP.step hq hfit
      rw [← hid] at hst
      have hcRs := hP.size
      have hcEs' := hP.esize
      obtain ⟨ps, hps⟩ : ∃ ps, ps = used + offG PL id + (grp (PL.take i) s).length := ⟨_, rfl⟩
      rw [← hps] at hce hst
      refine WD.block ?_
      refine WD.seq ?_
      have LT8 := lt_of h8W
      have LT22 := lt_of h22W
      have LT16 := lt_of h16W
      have LT26 := lt_of h26
      have LT901 := lt_of hcR
      have LT902 := lt_of hcE'
      have FRsz := Fr.size hfr
      refine WD.region rfl ?_
      refine RL.val rfl (ex_loadB (by conv => lhs; whnf) Ybaf.sc46 h16W (by conv => lhs; whnf)) ?_
      refine RL.val rfl (ex_loadB (by conv => lhs; whnf) Ybaf.sc3 h26 (by conv => lhs; whnf)) ?_
      refine RL.val rfl (ex_ix1 (by conv => lhs; whnf) (by conv => lhs; whnf) Ybaf.sl46 Ybaf.sz3 rfl (by omega)) ?_
      refine RL.val rfl (ex_load (by conv => lhs; whnf) Ybaf.sc3 (cellOf hgic hci)) ?_
      refine RL.val rfl (ex_assign (by conv => lhs; whnf)) ?_
      refine RL.nil ?_
      refine WD.seq ?_
      refine WD.draw [7] rfl (by kernel_rfl) ?_
      refine AE.take 0 rfl (by kernel_rfl) rfl (fun w' hw => ex_loadB (by conv => lhs; whnf) Ybaf.sc46 (hw.keep h8W) (by conv => lhs; whnf)) (Ext.drew (Ext.refl _) 1) ?_
      refine AE.take 1 rfl (by kernel_rfl) rfl (fun w' hw => ex_loadB (by conv => lhs; whnf) Ybaf.sc46 (hw.keep h22W) (by conv => lhs; whnf)) (Ext.drew (Ext.refl _) 1) ?_
      refine AE.take 2 rfl (by kernel_rfl) rfl (fun w' hw => ex_move (by conv => lhs; whnf)) (Ext.drew (Ext.refl _) 1) ?_
      refine AE.take 3 rfl (by kernel_rfl) rfl (fun w' hw => ex_ix1 (by conv => lhs; whnf) (by conv => lhs; whnf) Ybaf.sl46 Ybaf.sz3 rfl (by omega)) (Ext.drew (Ext.refl _) 1) ?_
      refine AE.take 4 rfl (by kernel_rfl) rfl (fun w' hw => ex_load (by conv => lhs; whnf) Ybaf.sc3 (hw.cell (cellOf hcE' hce))) (Ext.drew (Ext.refl _) 1) ?_
      refine AE.take 5 rfl (by kernel_rfl) rfl (fun w' hw => ex_move (by conv => lhs; whnf)) (Ext.drew (Ext.refl _) 1) ?_
      refine AE.take 6 rfl (by kernel_rfl) rfl (fun w' hw => ex_ix1 (by conv => lhs; whnf) (by conv => lhs; whnf) Ybaf.sl46 Ybaf.sz3 rfl (by omega)) (Ext.drew (Ext.refl _) 1) ?_
      refine AE.unit 7 rfl (by kernel_rfl) (ex_store (by conv => lhs; whnf) (by conv => lhs; whnf) Ybaf.sc3 rfl hcR (by simp; omega)) (fun h => absurd h (by decide)) ?_
      refine AE.nil (by kernel_rfl) ?_
      refine WD.seq ?_
      refine WD.region rfl ?_
      refine RL.val rfl (ex_loadB (by conv => lhs; whnf) Ybaf.sc46 (sr_ne h22W (by first | exact ne_of_type h22W hcR rfl | omega)) (by conv => lhs; whnf)) ?_
      refine RL.val rfl (ex_move (by conv => lhs; whnf)) ?_
      refine RL.val rfl (ex_ix1 (by conv => lhs; whnf) (by conv => lhs; whnf) Ybaf.sl46 Ybaf.sz3 rfl (by omega)) ?_
      refine RL.val rfl (ex_load (by conv => lhs; whnf) Ybaf.sc3 (cellOf (sr_ne hcE' (by first | exact ne_of_type hcE' hcR rfl | omega)) hce)) ?_
      refine RL.val rfl (ex_add (c := ((ps + 1 : Nat) : Int)) (by conv => lhs; whnf) (by conv => lhs; whnf) (by rw [IntKind.wrap_i64]; omega)) ?_
      refine RL.val rfl (ex_ix1 (by conv => lhs; whnf) (by conv => lhs; whnf) Ybaf.sl46 Ybaf.sz3 rfl (by omega)) ?_
      refine RL.unit (ex_store (by conv => lhs; whnf) (by conv => lhs; whnf) Ybaf.sc3 rfl (sr_ne hcE' (by first | exact ne_of_type hcE' hcR rfl | omega)) (by simp; omega)) ?_
      refine RL.nil ?_
      refine WD.region rfl ?_
      refine RL.val rfl (ex_loadB (by conv => lhs; whnf) Ybaf.sc3 (sr_ne (sr_ne h26 (by first | exact ne_of_type h26 hcR rfl | omega)) (by first | exact ne_of_type h26 hcE' rfl | omega)) (by conv => lhs; whnf)) ?_
      refine RL.val rfl (ex_add (c := ((i + 1 : Nat) : Int)) (by conv => lhs; whnf) (by conv => lhs; whnf) (by rw [IntKind.wrap_i64]; omega)) ?_
      refine RL.unit (ex_store (by conv => lhs; whnf) (by conv => lhs; whnf) Ybaf.sc3 rfl (sr_ne (sr_ne h26 (by first | exact ne_of_type h26 hcR rfl | omega)) (by first | exact ne_of_type h26 hcE' rfl | omega)) rfl) ?_
      refine RL.nil ?_
      exact ⟨(KO.set (KO.set (KO.set (KO.drew (KO.refl _ _ _) 1) hcR rfl) (sr_ne hcE' (by first | exact ne_of_type hcE' hcR rfl | omega)) rfl) (sr_ne (sr_ne h26 (by first | exact ne_of_type h26 hcR rfl | omega)) (by first | exact ne_of_type h26 hcE' rfl | omega)) rfl), (Fr.set (Fr.set (Fr.set (Fr.drew hfr 1) _ _ (fun hh => by first | exact rfl | exact .inl rfl | exact .inr (.inl rfl) | exact .inr (.inr rfl) | ((try simp only [sz_al, sz_sr, sz_dn] at hh); (try simp only [sz_al, sz_sr, sz_dn]); (first | omega | (dsimp only; omega) | exact .inl rfl | exact .inr (.inl rfl))))) _ _ (fun hh => by first | exact rfl | exact .inl rfl | exact .inr (.inl rfl) | exact .inr (.inr rfl) | ((try simp only [sz_al, sz_sr, sz_dn] at hh); (try simp only [sz_al, sz_sr, sz_dn]); (first | omega | (dsimp only; omega) | exact .inl rfl | exact .inr (.inl rfl))))) _ _ (fun hh => by first | exact rfl | exact .inl rfl | exact .inr (.inl rfl) | exact .inr (.inr rfl) | ((try simp only [sz_al, sz_sr, sz_dn] at hh); (try simp only [sz_al, sz_sr, sz_dn]); (first | omega | (dsimp only; omega) | exact .inl rfl | exact .inr (.inl rfl))))), (sr_eq (sr_ne (sr_ne h26 (by first | exact ne_of_type h26 hcR rfl | omega)) (by first | exact ne_of_type h26 hcE' rfl | omega))), _, _, (sr_ne (sr_ne (sr_eq hcR) (by first | exact ne_of_type hcR hcE' rfl | omega)) (by first | exact ne_of_type hcR h26 rfl | omega)), (sr_ne (sr_eq (sr_ne hcE' (by first | exact ne_of_type hcE' hcR rfl | omega))) (by first | exact ne_of_type hcE' h26 rfl | omega)), hst⟩
    · rintro D W hD ⟨hfr, h26, cR, cE', hcR, hcE', hP⟩ hDb
      exact ⟨D, rfl, hDb, by omega, ⟨rfl, rfl, rfl, rfl, rfl, rfl, rfl, rfl, rfl, rfl, rfl, rfl, rfl, rfl, trivial⟩, (hf8.mono (fun _ _ h => h.elim)).trans hfr (fun _ _ h => h), cR, cE', hcR, hcE', hP⟩
    · rintro D c W hD hf hDb
      exact hf.elim
  rintro ds F w9 ⟨D2, rfl, hD2, hD2n, hF, hf79, cR, cE', hcR, hcE', hP⟩
  obtain ⟨G, rfl⟩ := hF.get
  clear hF
  have hXR : bX ≠ bR := ne_of_type hX hR rfl
  have hRp : some bR ≠ pv.ownBlock := own_ne hown hR rfl
  have hXp : some bX ≠ pv.ownBlock := own_ne hown hX rfl
  have hpl : ∀ kk, pv.ownBlock = some kk → Bx ≤ kk ∧ kk < n0 := fun kk hkk => by have := hown.lt kk hkk; omega
  have h8_9 := hf79.keep h8_7 (by omega)
  have h6_9 := hf79.keep h6_7 (by omega)
  have h22_9 := hf79.keep h22_7 (by omega)
  have hX9 := hf79.keep hX7 (by omega)
  have h10_9 := hf79.keep (hf7.keep (hf6.keep h10_5 id) (by omega)) (by omega)
  have h11_9 := hf79.keep (hf7.keep (hf6.keep h11_5 id) (by omega)) (by omega)
  have h14_9 := hf79.keep (hf7.keep (hf6.keep h14_5 id) (by omega)) (by omega)
  have hD1_9 := hf79.keep (hf7.keep (hf6.keep hD1 id) (by omega)) (by omega)
  have how9 := hf79.own (hf7.own (hf6.own how5 (fun _ _ => id)) (fun k hk => by have := how5.lt k hk; omega)) (fun k hk => by have := how5.lt k hk; omega)
  have hown9 := hf79.own (hf7.own (hf6.own (hf05.own hown (fun _ _ => id)) (fun _ _ => id)) (fun k hk => by have := hpl k hk; omega)) (fun k hk => by
    have := hpl k hk
    rintro (e | e | e)
    · exact hRp (by rw [hk, e])
    · omega
    · omega)
  have hf09 : Fr (fun k => k = bR) w w9 := ((hf07.mono (fun _ _ h => h.elim)).trans hf79 (fun k hk h => by omega))
  have hsz9 := hf79.size
  have hsz09 := hf09.size
  have hcRs := hP.size
  have hcEs9 := hP.esize
  have hends := hP.ends
  have hrowsP := hP.rows
  have hold := hP.old
  rw [htake] at hends hrowsP
  clear hP
  refine WD.seqc (fun ds F wr => ds = [Eng.mark D2, Eng.mark D1] ∧ Has F [(0, .pointer (some ⟨bX, 0, none⟩)), (6, .pointer (some ⟨n0, 0, none⟩)), (7, .pointer (some ⟨n0 + 1, 0, none⟩)), (8, .pointer (some ⟨n0 + 2, 0, none⟩)), (9, .pointer (some ⟨n0 + 3, 0, none⟩)), (10, .pointer (some ⟨n0 + 4, 0, none⟩)), (11, .pointer (some ⟨n0 + 5, 0, none⟩)), (12, .pointer (some ⟨bc, 0, none⟩)), (13, .pointer (some ⟨n0 + 7, 0, none⟩)), (14, .pointer (some ⟨n0 + 8, 0, none⟩)), (15, .pointer (some ⟨n0 + 9, 0, none⟩)), (16, .pointer (some ⟨n0 + 10, 0, none⟩))] ∧ Fr (fun k => k = bX ∨ some k = pv.ownBlock) w9 wr ∧ ∃ (pv' : Value) (pr : List (Out × Value)), wr.heap[bX]? = some (.cells #[(.slice (some ⟨bT, 0, none⟩) T.length T.length), .int .i64 read, pv'] 42 (0, 0)) ∧ wr.ownsRow Bx 48 4 pv' (n + pr.length) (xs ++ pr.flatMap outCells) ∧ pr.map (·.1) = outOf x p PL ∧ ∀ q, q ∈ pr → RowsIn cR bR (used + PL.length) q) ?_ ?_
  · --BEGIN loop3
    refine WD.seq ?_
    have LT14 := lt_of h14_9
    refine WD.region rfl ?_
    refine RL.val rfl (ex_loadB (by conv => lhs; whnf) Ybaf.sc87 h14_9 (by conv => lhs; whnf)) ?_
    refine RL.val rfl (ex_len (by conv => lhs; whnf) Ybaf.sl87) ?_
    refine RL.val rfl (ex_move (by conv => lhs; whnf)) ?_
    refine RL.nil ?_
    refine WD.block ?_
    refine WD.loopk (fun m ds F wr => ∃ (i : Nat) (pvi : Value) (pr : List (Out × Value)), m = nW - i ∧ i ≤ nW ∧ ds = [Eng.mark D2, Eng.mark D1] ∧ Has F [(0, .pointer (some ⟨bX, 0, none⟩)), (6, .pointer (some ⟨n0, 0, none⟩)), (7, .pointer (some ⟨n0 + 1, 0, none⟩)), (8, .pointer (some ⟨n0 + 2, 0, none⟩)), (9, .pointer (some ⟨n0 + 3, 0, none⟩)), (10, .pointer (some ⟨n0 + 4, 0, none⟩)), (11, .pointer (some ⟨n0 + 5, 0, none⟩)), (12, .pointer (some ⟨bc, 0, none⟩)), (13, .pointer (some ⟨n0 + 7, 0, none⟩)), (14, .pointer (some ⟨n0 + 8, 0, none⟩)), (15, .pointer (some ⟨n0 + 9, 0, none⟩)), (16, .pointer (some ⟨n0 + 10, 0, none⟩)), (21, .int .i64 ((used + offG PL i : Nat) : Int)), (22, .pointer (some ⟨m0 + 1, 0, none⟩)), (141, .slice wa nW wc), (142, .int .i64 (nW : Nat)), (143, .int .i64 (i : Nat))] ∧ Fr (fun k => k = bX ∨ some k = pv.ownBlock) w9 wr ∧ wr.heap[bX]? = some (.cells #[(.slice (some ⟨bT, 0, none⟩) T.length T.length), .int .i64 read, pvi] 42 (0, 0)) ∧ wr.ownsRow Bx 48 4 pvi (n + i) (xs ++ pr.flatMap outCells) ∧ pr.length = i ∧ pr.map (·.1) = ((wsOf PL).take i).map (outW x p PL) ∧ (∀ q, q ∈ pr → RowsIn cR bR (used + PL.length) q) ∧ ∀ kk, pvi.ownBlock = some kk → kk < w9.heap.size → some kk = pv.ownBlock) nW
      ⟨0, pv, [], rfl, Nat.zero_le _, rfl, ⟨rfl, rfl, rfl, rfl, rfl, rfl, rfl, rfl, rfl, rfl, rfl, rfl, (by rw [offG_zero]; rfl), rfl, rfl, rfl, rfl, trivial⟩, Fr.refl w9, hX9, by simpa using hown9, rfl, rfl, (fun q h => by cases h), (fun kk h _ => h.symm)⟩ ?_
    rintro m ds F wr ⟨i, pvi, pr, rfl, hi, rfl, hF, hfr, hXr, hownr, hprl, hprm, hprr, hbk⟩ K hK
    obtain ⟨G, rfl⟩ := hF.get
    clear hF
    have hszr := hfr.size
    refine WD.seq ?_
    refine WD.region rfl ?_
    refine RL.val rfl (ex_lss (by conv => lhs; whnf) (by conv => lhs; whnf)) ?_
    refine RL.nil ?_
    refine WD.seq ?_
    refine WD.cond _ (by conv => lhs; whnf) (fun hlt1 => ?_) (fun hlt1 => ?_)
    rotate_left
    · have hik : i = nW := by have := of_decide_eq_false hlt1; omega
      refine WD.exit ?_
      repeat (first | refine thenD_exit ?_ | refine blockD_hit ?_ | refine blockD_miss rfl ?_)
      refine ⟨rfl, ⟨rfl, rfl, rfl, rfl, rfl, rfl, rfl, rfl, rfl, rfl, rfl, rfl, trivial⟩, hfr, pvi, pr, hXr, by rw [hprl]; exact hownr, ?_, hprr⟩
      rw [hprm, hik, hnW, List.take_length]
      rfl
    have hik : i < nW := by have := of_decide_eq_true hlt1; omega
    obtain ⟨s, hs⟩ : ∃ s, (wsOf PL)[i]? = some s := ⟨_, List.getElem?_eq_getElem (by omega)⟩
    have hgpos := grp_some (List.mem_of_getElem? hs)
    have hoff := offG_succ (sizes_at hs)
    have hoffl := offG_le PL (i + 1)
    have hce := hends i s hs
    have howr := hfr.own how9 (fun k hk => by have := how5.lt k hk; rintro (e | e); omega; have := hpl k e.symm; omega)
    obtain ⟨_, g, capW, curW, hwe, hgB, hgc, hgcap, hcurW⟩ := own_open (f := winCells x) (fun _ => rfl) howr (by omega) (by omega)
    cases hwe
    have hrow := hcurW i s hs
    have h8r := hfr.keep h8_9 (by rintro (e | e); omega; have := hpl _ e.symm; omega)
    have h6r := hfr.keep h6_9 (by rintro (e | e); omega; have := hpl _ e.symm; omega)
    have h22r := hfr.keep h22_9 (by rintro (e | e); omega; have := hpl _ e.symm; omega)
    have hcEr := hfr.keep hcE' (by rintro (e | e); omega; have := hpl _ e.symm; omega)
    refine WD.skip ?_
    refine WD.seq ?_
    refine WD.block ?_
    refine WD.seq ?_
    have LT0 := lt_of hXr
    have LT6 := lt_of h6r
    have LT8 := lt_of h8r
    have LT22 := lt_of h22r
    have LT902 := lt_of hcEr
    have FRsz := Fr.size hfr
    refine WD.region rfl ?_
    refine RL.val rfl (ex_move (by conv => lhs; whnf)) ?_
    refine RL.val rfl (ex_ix0 (by conv => lhs; whnf) (by conv => lhs; whnf) Ybaf.sl87 Ybaf.sz92 rfl (by omega)) ?_
    refine RL.val rfl (ex_loadR (by conv => lhs; whnf) hgc Ybaf.ag92 rfl hrow) ?_
    refine RL.val rfl (ex_alloc Ybaf.zo92 (by first | (conv => lhs; simp only [sz_al, sz_sr, sz_dn]) | rfl)) ?_
    refine RL.val rfl (ex_assign (by conv => lhs; whnf)) ?_
    refine RL.unit (ex_storeW (by conv => lhs; whnf) (by conv => lhs; whnf) Ybaf.ag92 (an' (by first | (simp only [sz_al, sz_sr, sz_dn]; done) | rfl | omega | (simp only [sz_al, sz_sr, sz_dn]; omega))) (by rfl) (by rfl) (by rfl)) ?_
    refine RL.nil ?_
    refine WD.seq ?_
    refine WD.draw [0, 36, 37, 38, 39] rfl (by kernel_rfl) ?_
    refine AE.takeF 0 rfl (by kernel_rfl) rfl (fun w' => ex_move (by conv => lhs; whnf)) ?_
    refine AE.takeL 1 rfl (by kernel_rfl) rfl (fun w' hw => ex_move (by conv => lhs; whnf)) (Ext.drew (Ext.refl _) 1) ?_
    refine AE.takeL 2 rfl (by kernel_rfl) rfl (fun w' hw => ex_nilCheck (by conv => lhs; whnf)) (Ext.drew (Ext.refl _) 1) ?_
    refine AE.takeL 3 rfl (by kernel_rfl) rfl (fun w' hw => ex_fieldAddr (by conv => lhs; whnf) Ybaf.fo42_2) (Ext.drew (Ext.refl _) 1) ?_
    refine AE.takeL 4 rfl (by kernel_rfl) rfl (fun w' hw => ex_loadB (by conv => lhs; whnf) Ybaf.sc28 (hw.keep (sr_ne (al hXr) (by (try simp only [sz_al, sz_sr, sz_dn]); omega))) (by conv => lhs; whnf)) (Ext.drew (Ext.refl _) 1) ?_
    refine AE.takeL 5 rfl (by kernel_rfl) rfl (fun w' hw => ex_fieldAddr (by conv => lhs; whnf) Ybaf.fo48_0) (Ext.drew (Ext.refl _) 1) ?_
    refine AE.takeL 6 rfl (by kernel_rfl) rfl (fun w' hw => ex_loadB (by conv => lhs; whnf) Ybaf.sc3 (hw.keep (sr_ne (al h6r) (by (try simp only [sz_al, sz_sr, sz_dn]); omega))) (by conv => lhs; whnf)) (Ext.drew (Ext.refl _) 1) ?_
    refine AE.takeL 7 rfl (by kernel_rfl) rfl (fun w' hw => ex_loadB (by conv => lhs; whnf) Ybaf.sc46 (hw.keep (sr_ne (al h8r) (by (try simp only [sz_al, sz_sr, sz_dn]); omega))) (by conv => lhs; whnf)) (Ext.drew (Ext.refl _) 1) ?_
    refine AE.takeL 8 rfl (by kernel_rfl) rfl (fun w' hw => ex_move (by conv => lhs; whnf)) (Ext.drew (Ext.refl _) 1) ?_
    refine AE.takeL 9 rfl (by kernel_rfl) rfl (fun w' hw => ex_loadB (by conv => lhs; whnf) Ybaf.sc46 (hw.keep (sr_ne (al h22r) (by (try simp only [sz_al, sz_sr, sz_dn]); omega))) (by conv => lhs; whnf)) (Ext.drew (Ext.refl _) 1) ?_
    refine AE.takeL 10 rfl (by kernel_rfl) rfl (fun w' hw => ex_move (by conv => lhs; whnf)) (Ext.drew (Ext.refl _) 1) ?_
    refine AE.takeL 11 rfl (by kernel_rfl) rfl (fun w' hw => ex_ix1 (by conv => lhs; whnf) (by conv => lhs; whnf) Ybaf.sl46 Ybaf.sz3 rfl (by omega)) (Ext.drew (Ext.refl _) 1) ?_
    refine AE.takeL 12 rfl (by kernel_rfl) rfl (fun w' hw => ex_load (by conv => lhs; whnf) Ybaf.sc3 (cellOf (hw.keep (sr_ne (al hcEr) (by (try simp only [sz_al, sz_sr, sz_dn]); omega))) hce)) (Ext.drew (Ext.refl _) 1) ?_
    refine AE.takeL 13 rfl (by kernel_rfl) rfl (fun w' hw => ex_loadB (by conv => lhs; whnf) Ybaf.sc46 (hw.keep (sr_ne (al h22r) (by (try simp only [sz_al, sz_sr, sz_dn]); omega))) (by conv => lhs; whnf)) (Ext.drew (Ext.refl _) 1) ?_
    refine AE.takeL 14 rfl (by kernel_rfl) rfl (fun w' hw => ex_move (by conv => lhs; whnf)) (Ext.drew (Ext.refl _) 1) ?_
    refine AE.takeL 15 rfl (by kernel_rfl) rfl (fun w' hw => ex_ix1 (by conv => lhs; whnf) (by conv => lhs; whnf) Ybaf.sl46 Ybaf.sz3 rfl (by omega)) (Ext.drew (Ext.refl _) 1) ?_
    refine AE.takeL 16 rfl (by kernel_rfl) rfl (fun w' hw => ex_load (by conv => lhs; whnf) Ybaf.sc3 (cellOf (hw.keep (sr_ne (al hcEr) (by (try simp only [sz_al, sz_sr, sz_dn]); omega))) hce)) (Ext.drew (Ext.refl _) 1) ?_
    refine AE.takeL 17 rfl (by kernel_rfl) rfl (fun w' hw => ex_slice_lhm (by conv => lhs; whnf) (by conv => lhs; whnf) (by conv => lhs; whnf) (by conv => lhs; whnf) Ybaf.sl46 Ybaf.sz3 hgpos (by omega)) (Ext.drew (Ext.refl _) 1) ?_
    refine AE.takeL 18 rfl (by kernel_rfl) rfl (fun w' hw => ex_fieldAddr (by conv => lhs; whnf) Ybaf.fo92_0) (Ext.drew (Ext.refl _) 1) ?_
    refine AE.takeL 19 rfl (by kernel_rfl) rfl (fun w' hw => ex_loadB (by conv => lhs; whnf) Ybaf.sc2 (hw.keep (sr_eq (an' (by first | (simp only [sz_al, sz_sr, sz_dn]; done) | rfl | omega | (simp only [sz_al, sz_sr, sz_dn]; omega))))) (by conv => lhs; whnf)) (Ext.drew (Ext.refl _) 1) ?_
    refine AE.takeL 20 rfl (by kernel_rfl) rfl (fun w' hw => ex_fieldAddr (by conv => lhs; whnf) Ybaf.fo48_2) (Ext.drew (Ext.refl _) 1) ?_
    refine AE.takeL 21 rfl (by kernel_rfl) rfl (fun w' hw => ex_loadB (by conv => lhs; whnf) Ybaf.sc2 (hw.keep (sr_ne (al h6r) (by (try simp only [sz_al, sz_sr, sz_dn]); omega))) (by conv => lhs; whnf)) (Ext.drew (Ext.refl _) 1) ?_
    refine AE.takeL 22 rfl (by kernel_rfl) rfl (fun w' hw => ex_max (by conv => lhs; whnf) (by conv => lhs; whnf)) (Ext.drew (Ext.refl _) 1) ?_
    refine AE.takeL 23 rfl (by kernel_rfl) rfl (fun w' hw => ex_fieldAddr (by conv => lhs; whnf) Ybaf.fo48_3) (Ext.drew (Ext.refl _) 1) ?_
    refine AE.takeL 24 rfl (by kernel_rfl) rfl (fun w' hw => ex_loadB (by conv => lhs; whnf) Ybaf.sc2 (hw.keep (sr_ne (al h6r) (by (try simp only [sz_al, sz_sr, sz_dn]); omega))) (by conv => lhs; whnf)) (Ext.drew (Ext.refl _) 1) ?_
    refine AE.takeL 25 rfl (by kernel_rfl) rfl (fun w' hw => ex_min (by conv => lhs; whnf) (by conv => lhs; whnf)) (Ext.drew (Ext.refl _) 1) ?_
    refine AE.takeL 26 rfl (by kernel_rfl) rfl (fun w' hw => ex_fieldAddr (by conv => lhs; whnf) Ybaf.fo92_1) (Ext.drew (Ext.refl _) 1) ?_
    refine AE.takeL 27 rfl (by kernel_rfl) rfl (fun w' hw => ex_loadB (by conv => lhs; whnf) Ybaf.sc2 (hw.keep (sr_eq (an' (by first | (simp only [sz_al, sz_sr, sz_dn]; done) | rfl | omega | (simp only [sz_al, sz_sr, sz_dn]; omega))))) (by conv => lhs; whnf)) (Ext.drew (Ext.refl _) 1) ?_
    refine AE.takeL 28 rfl (by kernel_rfl) rfl (fun w' hw => ex_fieldAddr (by conv => lhs; whnf) Ybaf.fo48_2) (Ext.drew (Ext.refl _) 1) ?_
    refine AE.takeL 29 rfl (by kernel_rfl) rfl (fun w' hw => ex_loadB (by conv => lhs; whnf) Ybaf.sc2 (hw.keep (sr_ne (al h6r) (by (try simp only [sz_al, sz_sr, sz_dn]); omega))) (by conv => lhs; whnf)) (Ext.drew (Ext.refl _) 1) ?_
    refine AE.takeL 30 rfl (by kernel_rfl) rfl (fun w' hw => ex_max (by conv => lhs; whnf) (by conv => lhs; whnf)) (Ext.drew (Ext.refl _) 1) ?_
    refine AE.takeL 31 rfl (by kernel_rfl) rfl (fun w' hw => ex_fieldAddr (by conv => lhs; whnf) Ybaf.fo48_3) (Ext.drew (Ext.refl _) 1) ?_
    refine AE.takeL 32 rfl (by kernel_rfl) rfl (fun w' hw => ex_loadB (by conv => lhs; whnf) Ybaf.sc2 (hw.keep (sr_ne (al h6r) (by (try simp only [sz_al, sz_sr, sz_dn]); omega))) (by conv => lhs; whnf)) (Ext.drew (Ext.refl _) 1) ?_
    refine AE.takeL 33 rfl (by kernel_rfl) rfl (fun w' hw => ex_min (by conv => lhs; whnf) (by conv => lhs; whnf)) (Ext.drew (Ext.refl _) 1) ?_
    refine AE.takeL 34 rfl (by kernel_rfl) rfl (fun w' hw => Ybaf.bl48_0_1_2_3 (by conv => lhs; whnf) rfl (by conv => lhs; whnf) rfl (by conv => lhs; whnf) rfl (by conv => lhs; whnf) rfl) (Ext.drew (Ext.refl _) 1) ?_
    refine AE.val 35 rfl (by kernel_rfl) rfl (ex_buildSlice1 (by conv => lhs; whnf) Ybaf.sl28 Ybaf.sz48 Ybaf.zo48 rfl rfl rfl (by first | (conv => lhs; simp only [sz_al, sz_sr, sz_dn]) | rfl)) (fun _ => (Ext.alloc (Ext.drew (Ext.refl _) 1) _)) ?_
    refine AE.append1at 36 Bx rfl (by kernel_rfl) rfl Ybaf.sl28 Ybaf.in48 rfl rfl rfl (by conv => lhs; whnf) (by conv => lhs; whnf) (World.ownsRow.alloc (own_sr (hownr.alloc _) (own_ge hownr (Nat.le_refl _))) _) (an' (by first | (simp only [sz_al, sz_sr, sz_dn]; done) | rfl | omega | (simp only [sz_al, sz_sr, sz_dn]; omega))) (by rfl) (by rfl) (by omega) (by simp only [sz_al, sz_sr, sz_dn]; omega) ?_
    intro pv2 w3 hown2 hgr hcv2 hat
    refine ⟨fun h => absurd h (by decide), ?_⟩
    obtain ⟨cg, cc, rfl⟩ := hcv2
    refine AE.val 37 rfl (by kernel_rfl) rfl (ex_nilCheck (by conv => lhs; whnf)) (fun h => absurd h (by decide)) ?_
    refine AE.val 38 rfl (by kernel_rfl) rfl (ex_fieldAddr (by conv => lhs; whnf) Ybaf.fo42_2) (fun h => absurd h (by decide)) ?_
    refine AE.unit 39 rfl (by kernel_rfl) (ex_store (by conv => lhs; whnf) (by conv => lhs; whnf) Ybaf.sc28 rfl (gka hgr (own_sr (hownr.alloc _) (own_ge hownr (Nat.le_refl _))) (sr_ne (al hXr) (by (try simp only [sz_al, sz_sr, sz_dn]); omega)) rfl) rfl) (fun h => absurd h (by decide)) ?_
    refine AE.nil (by kernel_rfl) ?_
    refine WD.region rfl ?_
    refine RL.val rfl (ex_loadB (by conv => lhs; whnf) Ybaf.sc46 (sr_ne (gka hgr (own_sr (hownr.alloc _) (own_ge hownr (Nat.le_refl _))) (sr_ne (al h22r) (by (try simp only [sz_al, sz_sr, sz_dn]); omega)) rfl) (by first | exact ne_of_type h22r hXr rfl | omega)) (by conv => lhs; whnf)) ?_
    refine RL.val rfl (ex_move (by conv => lhs; whnf)) ?_
    refine RL.val rfl (ex_ix1 (by conv => lhs; whnf) (by conv => lhs; whnf) Ybaf.sl46 Ybaf.sz3 rfl (by omega)) ?_
    refine RL.val rfl (ex_load (by conv => lhs; whnf) Ybaf.sc3 (cellOf (sr_ne (gka hgr (own_sr (hownr.alloc _) (own_ge hownr (Nat.le_refl _))) (sr_ne (al hcEr) (by (try simp only [sz_al, sz_sr, sz_dn]); omega)) rfl) (by first | exact ne_of_type hcEr hXr rfl | omega)) hce)) ?_
    refine RL.val rfl (ex_assign (by conv => lhs; whnf)) ?_
    refine RL.nil ?_
    refine WD.region rfl ?_
    refine RL.val rfl (ex_add (c := ((i + 1 : Nat) : Int)) (by conv => lhs; whnf) (by conv => lhs; whnf) (by rw [IntKind.wrap_i64]; omega)) ?_
    refine RL.val rfl (ex_move (by conv => lhs; whnf)) ?_
    refine RL.nil ?_
    refine hK (nW - (i + 1)) _ _ _ (by omega) ⟨i + 1, .slice (some ⟨cg, 0, none⟩) (n + i + 1) cc, pr ++ [(outW x p PL s, .slice (some ⟨bR, used + offG PL i, none⟩) (grp PL s).length (grp PL s).length)], rfl, by omega, rfl, ⟨rfl, rfl, rfl, rfl, rfl, rfl, rfl, rfl, rfl, rfl, rfl, rfl, (by rw [hoff, ← Nat.add_assoc]; rfl), rfl, rfl, rfl, rfl, trivial⟩, (Fr.set (Fr.growna (Fr.drew (Fr.set (Fr.alloc hfr _) _ _ (fun hh => by first | exact rfl | exact .inl rfl | exact .inr (.inl rfl) | exact .inr (.inr rfl) | ((try simp only [sz_al, sz_sr, sz_dn] at hh); (try simp only [sz_al, sz_sr, sz_dn]); (first | omega | (dsimp only; omega) | exact .inl rfl | exact .inr (.inl rfl))))) 1) hgr (fun kk hkk hlt => .inr (hbk kk hkk hlt))) _ _ (fun hh => by first | exact rfl | exact .inl rfl | exact .inr (.inl rfl) | exact .inr (.inr rfl) | ((try simp only [sz_al, sz_sr, sz_dn] at hh); (try simp only [sz_al, sz_sr, sz_dn]); (first | omega | (dsimp only; omega) | exact .inl rfl | exact .inr (.inl rfl))))), (sr_eq (gka hgr (own_sr (hownr.alloc _) (own_ge hownr (Nat.le_refl _))) (sr_ne (al hXr) (by (try simp only [sz_al, sz_sr, sz_dn]); omega)) rfl)), ?_, by simp [hprl], ?_, ?_, ?_⟩
    · have e : xs ++ (pr ++ [(outW x p PL s, Value.slice (some ⟨bR, used + offG PL i, none⟩) (grp PL s).length (grp PL s).length)]).flatMap outCells = xs ++ pr.flatMap outCells ++ [.int .i64 (p.ti : Nat), .slice (some ⟨bR, used + offG PL i, none⟩) (grp PL s).length (grp PL s).length, .int .i64 (min (max s p.start) p.stop), .int .i64 (min (max (s + x.p) p.start) p.stop)] := by
        rw [List.flatMap_append, List.append_assoc]; rfl
      rw [e]
      exact own_sr hown2 (own_ne hown2 (gka hgr (own_sr (hownr.alloc _) (own_ge hownr (Nat.le_refl _))) (sr_ne (al hXr) (by omega)) rfl) rfl)
    · rw [List.map_append, hprm, take_snoc hs, List.map_append]
      rfl
    · intro q hq
      rcases List.mem_append.1 hq with h | h
      · exact hprr q h
      · have e : q = (outW x p PL s, Value.slice (some ⟨bR, used + offG PL i, none⟩) (grp PL s).length (grp PL s).length) := by simpa using h
        subst e
        exact ⟨_, rfl, by show used + offG PL i + (grp PL s).length ≤ _; omega, fun j r hj => hrowsP i s j r hs hj⟩
    · intro kk hkk hlt
      rcases hat with h | h
      · exact hbk kk (h ▸ hkk) hlt
      · rw [h] at hkk
        simp only [Option.some.injEq, sz_al, sz_sr, sz_dn] at hkk
        omega
  rintro ds F wr ⟨rfl, hF, hfr, pv', pr, hXr, hownr, hprm, hprr⟩
  obtain ⟨G, rfl⟩ := hF.get
  clear hF
  have h8r := hfr.keep h8_9 (by rintro (e | e); omega; have := hpl _ e.symm; omega)
  have h10r := hfr.keep h10_9 (by rintro (e | e); omega; have := hpl _ e.symm; omega)
  have h11r := hfr.keep h11_9 (by rintro (e | e); omega; have := hpl _ e.symm; omega)
  have hcRr := hfr.keep hcR (by rintro (e | e); exact hXR e.symm; exact hRp e)
  have hD1r := hfr.keep hD1_9 (by rintro (e | e); omega; have := hpl _ e.symm; omega)
  have hD2r := hfr.keep hD2 (by rintro (e | e); omega; have := hpl _ e.symm; omega)
  have hf0r : Fr (fun k => k = bX ∨ k = bR ∨ some k = pv.ownBlock) w wr := (hf09.mono (fun _ _ h => .inr (.inl h))).trans hfr (fun k _ h => h.imp id .inr)
  refine WD.seq ?_
  have LT8 := lt_of h8r
  have LT10 := lt_of h10r
  have LT11 := lt_of h11r
  have LT0 := lt_of hXr
  have LT901 := lt_of hcRr
  have FRsz := Fr.size hf0r
  refine WD.region rfl ?_
  refine RL.val rfl (ex_loadB (by conv => lhs; whnf) Ybaf.sc46 h8r (by conv => lhs; whnf)) ?_
  refine RL.unit (ex_store (by conv => lhs; whnf) (by conv => lhs; whnf) Ybaf.sc46 rfl h10r rfl) ?_
  refine RL.unit (ex_store (by conv => lhs; whnf) (by conv => lhs; whnf) Ybaf.sc4 rfl (sr_ne h11r (by first | exact ne_of_type h11r h10r rfl | omega)) rfl) ?_
  refine RL.nil ?_
  refine WD.ret ?_
  repeat (first | refine thenD_ret ?_ | refine blockD_ret ?_)
  have hD2f := sr_ne_any (cs := #[Value.slice none 0 0].setIfInBounds 0 (.slice (some ⟨bR, 0, none⟩) (used + PL.length) cap)) (g := n0 + 4) hD2r (by omega)
  have hD1f := sr_ne_any (cs := #[Value.slice none 0 0].setIfInBounds 0 (.slice (some ⟨bR, 0, none⟩) (used + PL.length) cap)) (g := n0 + 4) hD1r (by omega)
  have hD2g := sr_ne_any (cs := #[Value.bool false].setIfInBounds 0 (.bool true)) (g := n0 + 5) hD2f (by omega)
  have hD1g := sr_ne_any (cs := #[Value.bool false].setIfInBounds 0 (.bool true)) (g := n0 + 5) hD1f (by omega)
  refine ⟨[D2, D1], rfl, ⟨by simp; omega, fun D' h => ?_⟩, fun wF hF => ?_⟩
  · rcases List.mem_cons.1 h with rfl | h
    · exact hD2g
    · rw [List.mem_singleton.1 h]
      exact hD1g
  have hit : ItS n0 _ wF := hF.mono (fun k _ hk => by
    rcases List.mem_cons.1 hk with rfl | h
    · exact ⟨by omega, _, hD2g, rfl⟩
    · rw [List.mem_singleton.1 h]
      exact ⟨by omega, _, hD1g, rfl⟩)
  refine ⟨_, results_cells2 rfl rfl rfl Ybaf.sc46 Ybaf.sc4 (hit.cells (sr_ne (sr_eq h10r) (by first | exact ne_of_type h10r h11r rfl | omega))) (hit.cells (sr_eq (sr_ne h11r (by first | exact ne_of_type h11r h10r rfl | omega)))), .inr ⟨by omega, rfl, hit.fr (Fr.set (Fr.set hf0r _ _ (fun hh => by first | exact rfl | exact .inl rfl | exact .inr (.inl rfl) | exact .inr (.inr rfl) | ((try simp only [sz_al, sz_sr, sz_dn] at hh); (try simp only [sz_al, sz_sr, sz_dn]); (first | omega | (dsimp only; omega) | exact .inl rfl | exact .inr (.inl rfl))))) _ _ (fun hh => by first | exact rfl | exact .inl rfl | exact .inr (.inl rfl) | exact .inr (.inr rfl) | ((try simp only [sz_al, sz_sr, sz_dn] at hh); (try simp only [sz_al, sz_sr, sz_dn]); (first | omega | (dsimp only; omega) | exact .inl rfl | exact .inr (.inl rfl))))) (by omega), ⟨pv', cR, pr, hit.cells (sr_ne (sr_ne hXr (by first | exact ne_of_type hXr h10r rfl | omega)) (by first | exact ne_of_type hXr h11r rfl | omega)), hit.cells (sr_ne (sr_ne hcRr (by first | exact ne_of_type hcRr h10r rfl | omega)) (by first | exact ne_of_type hcRr h11r rfl | omega)), hcRs, hold, hit.own ?_, hprm, hprr⟩⟩⟩
  exact own_sr (own_sr hownr (own_ne hownr h10r rfl)) (own_ne hownr h11r rfl)
end Go.Proofs.YbulknocFmt
