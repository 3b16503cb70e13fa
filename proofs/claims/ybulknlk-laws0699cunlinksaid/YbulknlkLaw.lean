/- The law's own walk, first half: the store and its list are built. -/
import Derived.Test.YbulknlkSeq
namespace Go.Proofs.Ybulknlk
open Go Go.Eng Go.RowKit
set_option linter.unusedSimpArgs false
set_option linter.unusedVariables false

theorem fill_pages {ρ : Operand → Value} {x y : Operand} {bM k : Nat} (hx : ρ x = .agg #[.slice none 0 0, .int .i64 (-1), .int .i64 0, .int .i64 0, .int .i64 0, .int .u32 0, .int .i64 0, .int .i64 0])
    (hy : ρ y = .agg #[.slice (some ⟨bM, 0, none⟩) (k * 48) (k * 48), .int .i64 0, .int .i64 48, .int .i64 0, .int .i64 0, .int .u32 0, .int .i64 0, .int .i64 0]) {z : Array Value} (hz : z.size = 16) :
    Instr.fill (fun i => some (i * 8, 8)) z ((#[(0, x), (1, y)] : Array (Nat × Operand)).toList.map fun p => (p.1, ρ p.2)) = some (pagesRow bM k) := by
  obtain ⟨z, rfl⟩ : ∃ l : List Value, z = l.toArray := ⟨z.toList, by simp⟩
  simp at hz
  match z, hz with
  | [_, _, _, _, _, _, _, _, _, _, _, _, _, _, _, _], _ => simp [Instr.fill, hx, hy, cells_agg, pagesRow]

/-- Where the walk stands when the store is made. -/
structure Made (w0 w : World) (bS bP bC bM k r : Nat) : Prop where
  st : St w bS bP bC bM k (rot k r) (fun _ => 0) (fun _ => 0) 0 0
  fr : Fr (fun _ => False) w0 w
  l1 : w0.heap.size ≤ bS
  l2 : w0.heap.size ≤ bP
  l3 : w0.heap.size ≤ bC
  l4 : w0.heap.size ≤ bM

set_option maxRecDepth 100000 in
theorem law_any {w : World} {a0 a1 a2 : Nat} (h0 : a0 < 65536) (h1 : a1 < 65536) (h2 : a2 < 65536) :
    Calls Yba.prog 3 #[.int .u16 (a0 : Nat), .int .u16 (a1 : Nat), .int .u16 (a2 : Nat)] w fun e w' => ∃ v, e = .returned v ∧ (v = .bool true ∧ Fr (fun k => w.heap.size ≤ k) w w') := by
  have hfr0 : Fr (fun _ => False) w w := Fr.refl w
  obtain ⟨k, hk⟩ : ∃ k, k = a0 % 300 + 1 := ⟨_, rfl⟩
  have hk0 : 0 < k := by omega
  have hk1 : k ≤ 300 := by omega
  obtain ⟨r, hr⟩ : ∃ r, r = a1 % k := ⟨_, rfl⟩
  have hr0 : r < k := by rw [hr]; exact Nat.mod_lt _ hk0
  obtain ⟨j, hjd⟩ : ∃ j, j = a2 % k := ⟨_, rfl⟩
  have hj : j < k := by rw [hjd]; exact Nat.mod_lt _ hk0
  obtain ⟨z59, hz59, hs59⟩ := zero59'
  refine calls_of Yba.func3 rfl rfl ?_
  refine WP.seq ?_
  have FRsz := Fr.size hfr0
  refine WP.region ?_
  refine RL.val rfl (ex_assign (by conv => lhs; whnf)) ?_
  refine RL.nil ?_
  refine WP.seq ?_
  refine WP.region ?_
  refine RL.val rfl (ex_move (by conv => lhs; whnf)) ?_
  refine RL.val rfl (ex_convert (by conv => lhs; whnf) Yba.cv22_3 Yba.kd3 (wrap_i64 (by omega) (by omega))) ?_
  refine RL.val rfl (ex_remN (b := 300) (m := 300) (by conv => lhs; whnf) (by conv => lhs; whnf) rfl (by omega)) ?_
  refine RL.val rfl (ex_add (c := (k : Nat)) (by conv => lhs; whnf) (by conv => lhs; whnf) (by rw [IntKind.wrap_i64, hk]; omega)) ?_
  refine RL.val rfl (ex_assign (by conv => lhs; whnf)) ?_
  refine RL.nil ?_
  refine WP.seq ?_
  refine WP.region ?_
  refine RL.val rfl (ex_move (by conv => lhs; whnf)) ?_
  refine RL.val rfl (ex_convert (by conv => lhs; whnf) Yba.cv22_3 Yba.kd3 (wrap_i64 (by omega) (by omega))) ?_
  refine RL.val rfl (ex_move (by conv => lhs; whnf)) ?_
  refine RL.val rfl (ex_remN (by conv => lhs; whnf) (by conv => lhs; whnf) rfl hk0) ?_
  refine RL.val rfl (ex_assign (v := .int .i64 (r : Nat)) (by rw [hr]; rfl)) ?_
  refine RL.nil ?_
  refine WP.seq ?_
  refine WP.region ?_
  refine RL.val rfl (ex_move (by conv => lhs; whnf)) ?_
  refine RL.val rfl (ex_convert (by conv => lhs; whnf) Yba.cv22_3 Yba.kd3 (wrap_i64 (by omega) (by omega))) ?_
  refine RL.val rfl (ex_move (by conv => lhs; whnf)) ?_
  refine RL.val rfl (ex_remN (by conv => lhs; whnf) (by conv => lhs; whnf) rfl hk0) ?_
  refine RL.val rfl (ex_assign (v := .int .i64 (j : Nat)) (by rw [hjd]; rfl)) ?_
  refine RL.nil ?_
  refine WP.seqc (fun F wr => ∃ bS bP bC bM, Has F [(7, .int .i64 (k : Nat)), (8, .int .i64 (r : Nat)), (9, .int .i64 (j : Nat)), (10, .pointer (some ⟨bS, 0, none⟩))] ∧ Made w wr bS bP bC bM k r) ?_ ?_
  · refine WP.draw [] (by kernel_rfl) ?_
    refine AE.take 0 rfl (by kernel_rfl) rfl (fun w' hw => Yba.bl28_1 (by conv => lhs; whnf) rfl) (Ext.drew (Ext.refl _) 1) ?_
    refine AE.take 1 rfl (by kernel_rfl) rfl (fun w' hw => ex_move (by conv => lhs; whnf)) (Ext.drew (Ext.refl _) 1) ?_
    refine AE.take 2 rfl (by kernel_rfl) rfl (fun w' hw => ex_mul (c := ((k * 48 : Nat) : Int)) (by conv => lhs; whnf) (by conv => lhs; whnf) (by rw [IntKind.wrap_i64]; omega)) (Ext.drew (Ext.refl _) 1) ?_
    refine AE.fork 3 6 (by kernel_rfl) ?_ ?_
    · refine AS.val rfl (by kernel_rfl) rfl (make5 (q := w.heap.size) (by conv => lhs; whnf) (by conv => lhs; whnf) (by omega) (by simp only [sz_al, sz_dn])) (fun _ => Ext.alloc (Ext.drew (Ext.refl _) 1) _) ?_
      refine AE.take 4 rfl (by kernel_rfl) rfl (fun w' hw => Yba.bl28_0_1_2 (by conv => lhs; whnf) rfl (by conv => lhs; whnf) rfl (by conv => lhs; whnf) rfl) (Ext.alloc (Ext.drew (Ext.refl _) 1) _) ?_
      refine AE.fork 5 6 (by kernel_rfl) ?_ ?_
      · refine AS.val rfl (by kernel_rfl) rfl (ex_buildSlice (q := w.heap.size + 1) Yba.sl29 Yba.sz28 Yba.zo28 rfl rfl (fill_pages (bM := w.heap.size) (k := k) (by conv => lhs; whnf) (by conv => lhs; whnf) (by simp)) (by simp only [sz_al, sz_dn])) (fun _ => Ext.alloc (Ext.alloc (Ext.drew (Ext.refl _) 1) _) _) ?_
        refine AE.val 6 rfl (by kernel_rfl) rfl (make65 (q := w.heap.size + 2) (by conv => lhs; whnf) (by conv => lhs; whnf) (by simp only [sz_al, sz_dn])) (fun _ => (Ext.alloc (Ext.alloc (Ext.alloc (Ext.drew (Ext.refl _) 1) _) _) _)) ?_
        refine AE.take 7 rfl (by kernel_rfl) rfl (fun w' hw => build59 hz59 hs59 (by conv => lhs; whnf) (by conv => lhs; whnf) rfl rfl) (Ext.alloc (Ext.alloc (Ext.alloc (Ext.drew (Ext.refl _) 1) _) _) _) ?_
        refine AE.val 8 rfl (by kernel_rfl) rfl (ex_box (by conv => lhs; whnf) (by first | (conv => lhs; simp only [sz_al, sz_sr, sz_dn]) | rfl)) (fun _ => (Ext.alloc (Ext.alloc (Ext.alloc (Ext.alloc (Ext.drew (Ext.refl _) 1) _) _) _) _)) ?_
        refine AE.take 9 rfl (by kernel_rfl) rfl (fun w' hw => ex_assign (by conv => lhs; whnf)) (Ext.alloc (Ext.alloc (Ext.alloc (Ext.alloc (Ext.drew (Ext.refl _) 1) _) _) _) _) ?_
        refine AE.nil (by kernel_rfl) ?_
        exact ⟨w.heap.size + 3, w.heap.size + 1, w.heap.size + 2, w.heap.size, ⟨rfl, rfl, rfl, rfl, trivial⟩, ⟨st_new hk0 hk1 (fixed_of (an' (by first | (simp only [sz_al, sz_sr, sz_dn]; done) | rfl | omega | (simp only [sz_al, sz_sr, sz_dn]; omega))) (cells59_8 hs59 _ _) (cells59_12 hs59 _ _) (al (al (an' (by simp only [sz_al, sz_dn]))))) (al (al (al (an' (by simp only [sz_al, sz_dn]))))) (al (an' (by first | (simp only [sz_al, sz_sr, sz_dn]; done) | rfl | omega | (simp only [sz_al, sz_sr, sz_dn]; omega)))) (by omega) (by omega) (by omega) (by omega) (by omega), (Fr.alloc (Fr.alloc (Fr.alloc (Fr.alloc (Fr.drew hfr0 1) _) _) _) _), by omega, by omega, by omega, by omega⟩⟩
      · refine AS.val rfl (by kernel_rfl) rfl (make65 (q := w.heap.size + 1) (by conv => lhs; whnf) (by conv => lhs; whnf) (by simp only [sz_al, sz_dn])) (fun _ => Ext.alloc (Ext.alloc (Ext.drew (Ext.refl _) 1) _) _) ?_
        refine AE.val 5 rfl (by kernel_rfl) rfl (ex_buildSlice (q := w.heap.size + 2) Yba.sl29 Yba.sz28 Yba.zo28 rfl rfl (fill_pages (bM := w.heap.size) (k := k) (by conv => lhs; whnf) (by conv => lhs; whnf) (by simp)) (by simp only [sz_al, sz_dn])) (fun _ => (Ext.alloc (Ext.alloc (Ext.alloc (Ext.drew (Ext.refl _) 1) _) _) _)) ?_
        refine AE.take 7 rfl (by kernel_rfl) rfl (fun w' hw => build59 hz59 hs59 (by conv => lhs; whnf) (by conv => lhs; whnf) rfl rfl) (Ext.alloc (Ext.alloc (Ext.alloc (Ext.drew (Ext.refl _) 1) _) _) _) ?_
        refine AE.val 8 rfl (by kernel_rfl) rfl (ex_box (by conv => lhs; whnf) (by first | (conv => lhs; simp only [sz_al, sz_sr, sz_dn]) | rfl)) (fun _ => (Ext.alloc (Ext.alloc (Ext.alloc (Ext.alloc (Ext.drew (Ext.refl _) 1) _) _) _) _)) ?_
        refine AE.take 9 rfl (by kernel_rfl) rfl (fun w' hw => ex_assign (by conv => lhs; whnf)) (Ext.alloc (Ext.alloc (Ext.alloc (Ext.alloc (Ext.drew (Ext.refl _) 1) _) _) _) _) ?_
        refine AE.nil (by kernel_rfl) ?_
        exact ⟨w.heap.size + 3, w.heap.size + 2, w.heap.size + 1, w.heap.size, ⟨rfl, rfl, rfl, rfl, trivial⟩, ⟨st_new hk0 hk1 (fixed_of (an' (by first | (simp only [sz_al, sz_sr, sz_dn]; done) | rfl | omega | (simp only [sz_al, sz_sr, sz_dn]; omega))) (cells59_8 hs59 _ _) (cells59_12 hs59 _ _) (al (an' (by first | (simp only [sz_al, sz_sr, sz_dn]; done) | rfl | omega | (simp only [sz_al, sz_sr, sz_dn]; omega))))) (al (al (al (an' (by simp only [sz_al, sz_dn]))))) (al (al (an' (by simp only [sz_al, sz_dn])))) (by omega) (by omega) (by omega) (by omega) (by omega), (Fr.alloc (Fr.alloc (Fr.alloc (Fr.alloc (Fr.drew hfr0 1) _) _) _) _), by omega, by omega, by omega, by omega⟩⟩
    · refine AS.val rfl (by kernel_rfl) rfl (make65 (q := w.heap.size) (by conv => lhs; whnf) (by conv => lhs; whnf) (by simp only [sz_al, sz_dn])) (fun _ => Ext.alloc (Ext.drew (Ext.refl _) 1) _) ?_
      refine AE.val 3 rfl (by kernel_rfl) rfl (make5 (q := w.heap.size + 1) (by conv => lhs; whnf) (by conv => lhs; whnf) (by omega) (by simp only [sz_al, sz_dn])) (fun _ => (Ext.alloc (Ext.alloc (Ext.drew (Ext.refl _) 1) _) _)) ?_
      refine AE.take 4 rfl (by kernel_rfl) rfl (fun w' hw => Yba.bl28_0_1_2 (by conv => lhs; whnf) rfl (by conv => lhs; whnf) rfl (by conv => lhs; whnf) rfl) (Ext.alloc (Ext.alloc (Ext.drew (Ext.refl _) 1) _) _) ?_
      refine AE.val 5 rfl (by kernel_rfl) rfl (ex_buildSlice (q := w.heap.size + 2) Yba.sl29 Yba.sz28 Yba.zo28 rfl rfl (fill_pages (bM := w.heap.size + 1) (k := k) (by conv => lhs; whnf) (by conv => lhs; whnf) (by simp)) (by simp only [sz_al, sz_dn])) (fun _ => (Ext.alloc (Ext.alloc (Ext.alloc (Ext.drew (Ext.refl _) 1) _) _) _)) ?_
      refine AE.take 7 rfl (by kernel_rfl) rfl (fun w' hw => build59 hz59 hs59 (by conv => lhs; whnf) (by conv => lhs; whnf) rfl rfl) (Ext.alloc (Ext.alloc (Ext.alloc (Ext.drew (Ext.refl _) 1) _) _) _) ?_
      refine AE.val 8 rfl (by kernel_rfl) rfl (ex_box (by conv => lhs; whnf) (by first | (conv => lhs; simp only [sz_al, sz_sr, sz_dn]) | rfl)) (fun _ => (Ext.alloc (Ext.alloc (Ext.alloc (Ext.alloc (Ext.drew (Ext.refl _) 1) _) _) _) _)) ?_
      refine AE.take 9 rfl (by kernel_rfl) rfl (fun w' hw => ex_assign (by conv => lhs; whnf)) (Ext.alloc (Ext.alloc (Ext.alloc (Ext.alloc (Ext.drew (Ext.refl _) 1) _) _) _) _) ?_
      refine AE.nil (by kernel_rfl) ?_
      exact ⟨w.heap.size + 3, w.heap.size + 2, w.heap.size, w.heap.size + 1, ⟨rfl, rfl, rfl, rfl, trivial⟩, ⟨st_new hk0 hk1 (fixed_of (an' (by first | (simp only [sz_al, sz_sr, sz_dn]; done) | rfl | omega | (simp only [sz_al, sz_sr, sz_dn]; omega))) (cells59_8 hs59 _ _) (cells59_12 hs59 _ _) (al (an' (by first | (simp only [sz_al, sz_sr, sz_dn]; done) | rfl | omega | (simp only [sz_al, sz_sr, sz_dn]; omega))))) (al (al (an' (by first | (simp only [sz_al, sz_sr, sz_dn]; done) | rfl | omega | (simp only [sz_al, sz_sr, sz_dn]; omega))))) (al (al (al (an' (by simp only [sz_al, sz_dn]))))) (by omega) (by omega) (by omega) (by omega) (by omega), (Fr.alloc (Fr.alloc (Fr.alloc (Fr.alloc (Fr.drew hfr0 1) _) _) _) _), by omega, by omega, by omega, by omega⟩⟩
  rintro F w1 ⟨bS, bP, bC, bM, hF, hm⟩
  obtain ⟨G, rfl⟩ := hF.get
  clear hF
  have hst := hm.st
  obtain ⟨π, hπ⟩ : ∃ π, π = rot k r := ⟨_, rfl⟩
  rw [← hπ] at hst
  have hpm := hst.pm
  refine WP.seq ?_
  refine WP.region ?_
  refine RL.val rfl (ex_move (by conv => lhs; whnf)) ?_
  refine RL.val rfl (ex_move (by conv => lhs; whnf)) ?_
  refine RL.call rfl (ex_call2 rfl (by conv => lhs; whnf) (by conv => lhs; whnf) Yba.fun4) (seq hk0 hk1 hr0) ?_
  rintro v w2 ⟨rfl, hq, hf2⟩
  refine RL.val rfl (ex_assign (by conv => lhs; whnf)) ?_
  refine RL.nil ?_
  rw [← hπ] at hq
  have ltM : bM < w1.heap.size := by obtain ⟨c, hc, _⟩ := hst.mm.ex; exact lt_of hc
  have ltC : bC < w1.heap.size := lt_of hst.cl
  have ltS : bS < w1.heap.size := World.block_lt_of_cell? _ _ hst.fx.pages
  have ltP : bP < w1.heap.size := World.block_lt_of_cell? _ _ hst.fx.mem
  have hB1 := hm.fr.size
  obtain ⟨bQ, hbQ⟩ : ∃ b, b = w1.heap.size := ⟨_, rfl⟩
  rw [← hbQ] at hq ⊢
  have hst2 := hst.pure hf2
  have hfr2 : Fr (fun b => w.heap.size ≤ b) w w2 := (hm.fr.trans hf2 (fun _ _ h => h)).mono (fun _ _ h => h.elim)
  have hSB : ∀ b, SB bM bC b → w.heap.size ≤ b := fun b h => h.elim (fun e => e ▸ hm.l4) (fun e => e ▸ hm.l3)
  have hQ : ¬ SB bM bC bQ := fun h => by rcases h with h | h <;> omega
  have hbd : ∀ i, i < k → 2048 + π i < 4294967296 := fun i hi => by have := hpm.lt i hi; omega
  have hN : ∀ i, i < k → N0 π i < 4294967296 := fun i hi => by unfold N0; split <;> first | omega | exact hbd _ (by omega)
  have hO : ∀ i, i < k → O0 π k i < 4294967296 := fun i hi => by unfold O0; split <;> first | omega | exact hbd _ (by omega)
  refine WP.seqc (fun F wr => Has F [(7, .int .i64 (k : Nat)), (9, .int .i64 (j : Nat)), (10, .pointer (some ⟨bS, 0, none⟩)), (11, .slice (some ⟨bQ, 0, none⟩) k k)] ∧
    St wr bS bP bC bM k π (N0 π) (O0 π k) 0 0 ∧ Seq wr bQ k π ∧ w1.heap.size < wr.heap.size ∧ Fr (fun b => w.heap.size ≤ b) w wr) ?_ ?_
  · refine WP.seq ?_
    refine WP.region ?_
    refine RL.val rfl (ex_assign (by conv => lhs; whnf)) ?_
    refine RL.nil ?_
    refine WP.block ?_
    refine WP.loopk (fun m F wr => ∃ i : Nat, m = k - i ∧ i ≤ k ∧ Has F [(7, .int .i64 (k : Nat)), (9, .int .i64 (j : Nat)), (10, .pointer (some ⟨bS, 0, none⟩)), (11, .slice (some ⟨bQ, 0, none⟩) k k), (12, .int .i64 (i : Nat))] ∧
      St wr bS bP bC bM k π (upto (N0 π) i) (upto (O0 π k) i) 0 0 ∧ Seq wr bQ k π ∧ Fr (fun b => w.heap.size ≤ b) w wr) k
      ⟨0, rfl, Nat.zero_le _, ⟨rfl, rfl, rfl, rfl, rfl, trivial⟩, hst2.congr (fun i _ => by simp [upto]) (fun i _ => by simp [upto]), hq, hfr2⟩ ?_
    clear hst2 hq hfr2
    rintro m F wr ⟨i, rfl, hi, hF, hst, hq, hfr⟩ K hK
    obtain ⟨G, rfl⟩ := hF.get
    clear hF
    refine WP.seq ?_
    refine WP.seq ?_
    refine WP.region ?_
    refine RL.val rfl (ex_move (by conv => lhs; whnf)) ?_
    refine RL.val rfl (ex_move (by conv => lhs; whnf)) ?_
    refine RL.val rfl (ex_lss (by conv => lhs; whnf) (by conv => lhs; whnf)) ?_
    refine RL.nil ?_
    refine WP.cond _ (by conv => lhs; whnf) (fun hlt1 => ?_) (fun hlt1 => ?_)
    · have hik : i < k := by have := of_decide_eq_true hlt1; omega
      refine WP.skip ?_
      refine WP.seq ?_
      refine WP.block ?_
      refine WP.seq ?_
      refine WP.region ?_
      refine RL.val rfl (ex_move (by conv => lhs; whnf)) ?_
      refine RL.val rfl (ex_move (by conv => lhs; whnf)) ?_
      refine RL.val rfl (ex_move (by conv => lhs; whnf)) ?_
      refine RL.val rfl (ex_ix1 (by conv => lhs; whnf) (by conv => lhs; whnf) Yba.sl48 Yba.sz26 rfl (by omega)) ?_
      refine RL.val rfl (ex_load (by conv => lhs; whnf) Yba.sc26 (hq.cell hik)) ?_
      refine RL.call rfl (ex_call2 rfl (by conv => lhs; whnf) (by conv => lhs; whnf) Yba.fun5) (hst.chunk hik) ?_
      rintro v w3 ⟨rfl, hf3⟩
      refine RL.val rfl (ex_assign (by conv => lhs; whnf)) ?_
      refine RL.nil ?_
      have hst3 := hst.pure hf3
      have hq3 := hq.pure hf3
      refine WP.seq ?_
      refine WP.region ?_
      refine RL.val rfl (ex_assign (by conv => lhs; whnf)) ?_
      refine RL.val rfl (ex_assign (by conv => lhs; whnf)) ?_
      refine RL.nil ?_
      refine WP.seqc (fun F wr => wr = w3 ∧ Has F [(7, .int .i64 (k : Nat)), (9, .int .i64 (j : Nat)), (10, .pointer (some ⟨bS, 0, none⟩)), (11, .slice (some ⟨bQ, 0, none⟩) k k), (12, .int .i64 (i : Nat)), (13, chunkV bM k (π i)), (14, .int .u32 (N0 π i : Nat)), (15, .int .u32 0)]) ?_ ?_
      · refine WP.seq ?_
        refine WP.region ?_
        refine RL.val rfl (ex_move (by conv => lhs; whnf)) ?_
        refine RL.val rfl (ex_gtr (by conv => lhs; whnf) (by conv => lhs; whnf)) ?_
        refine RL.nil ?_
        by_cases hi0 : i = 0
        · refine WP.cond_false (congrArg Value.bool (decide_eq_false (by omega))) ?_
          refine WP.skip ?_
          exact ⟨rfl, rfl, rfl, rfl, rfl, rfl, rfl, (by rw [hi0]; rfl), rfl, trivial⟩
        · refine WP.cond_true (congrArg Value.bool (decide_eq_true (by omega))) ?_
          refine WP.region ?_
          refine RL.val rfl (ex_move (by conv => lhs; whnf)) ?_
          refine RL.val rfl (ex_move (by conv => lhs; whnf)) ?_
          refine RL.val rfl (ex_sub (c := ((i - 1 : Nat) : Int)) (by conv => lhs; whnf) (by conv => lhs; whnf) (by rw [IntKind.wrap_i64]; omega)) ?_
          refine RL.val rfl (ex_ix1 (by conv => lhs; whnf) (by conv => lhs; whnf) Yba.sl48 Yba.sz26 rfl (by omega)) ?_
          refine RL.val rfl (ex_load (by conv => lhs; whnf) Yba.sc26 (hq3.cell (i := i - 1) (by omega))) ?_
          refine RL.val rfl (ex_assign (by conv => lhs; whnf)) ?_
          refine RL.nil ?_
          exact ⟨rfl, rfl, rfl, rfl, rfl, rfl, rfl, (by rw [N0, if_neg hi0]; rfl), rfl, trivial⟩
      rintro F wr' ⟨rfl, hF⟩
      obtain ⟨G, rfl⟩ := hF.get
      clear hF
      refine WP.seqc (fun F wr => wr = wr' ∧ Has F [(7, .int .i64 (k : Nat)), (9, .int .i64 (j : Nat)), (10, .pointer (some ⟨bS, 0, none⟩)), (11, .slice (some ⟨bQ, 0, none⟩) k k), (12, .int .i64 (i : Nat)), (13, chunkV bM k (π i)), (14, .int .u32 (N0 π i : Nat)), (15, .int .u32 (O0 π k i : Nat))]) ?_ ?_
      · refine WP.seq ?_
        refine WP.region ?_
        refine RL.val rfl (ex_move (by conv => lhs; whnf)) ?_
        refine RL.val rfl (ex_add (c := ((i + 1 : Nat) : Int)) (by conv => lhs; whnf) (by conv => lhs; whnf) (by rw [IntKind.wrap_i64]; omega)) ?_
        refine RL.val rfl (ex_move (by conv => lhs; whnf)) ?_
        refine RL.val rfl (ex_lss (by conv => lhs; whnf) (by conv => lhs; whnf)) ?_
        refine RL.nil ?_
        by_cases hi1 : i + 1 < k
        · refine WP.cond_true (congrArg Value.bool (decide_eq_true (by omega))) ?_
          refine WP.region ?_
          refine RL.val rfl (ex_move (by conv => lhs; whnf)) ?_
          refine RL.val rfl (ex_move (by conv => lhs; whnf)) ?_
          refine RL.val rfl (ex_add (c := ((i + 1 : Nat) : Int)) (by conv => lhs; whnf) (by conv => lhs; whnf) (by rw [IntKind.wrap_i64]; omega)) ?_
          refine RL.val rfl (ex_ix1 (by conv => lhs; whnf) (by conv => lhs; whnf) Yba.sl48 Yba.sz26 rfl (by omega)) ?_
          refine RL.val rfl (ex_load (by conv => lhs; whnf) Yba.sc26 (hq3.cell (i := i + 1) (by omega))) ?_
          refine RL.val rfl (ex_assign (by conv => lhs; whnf)) ?_
          refine RL.nil ?_
          exact ⟨rfl, rfl, rfl, rfl, rfl, rfl, rfl, rfl, (by rw [O0, if_pos hi1]; rfl), trivial⟩
        · refine WP.cond_false (congrArg Value.bool (decide_eq_false (by omega))) ?_
          refine WP.skip ?_
          exact ⟨rfl, rfl, rfl, rfl, rfl, rfl, rfl, rfl, (by rw [O0, if_neg hi1]; rfl), trivial⟩
      rintro F wr'' ⟨rfl, hF⟩
      obtain ⟨G, rfl⟩ := hF.get
      clear hF
      refine WP.seq ?_
      refine WP.region ?_
      refine RL.val rfl (ex_move (by conv => lhs; whnf)) ?_
      refine RL.val rfl (ex_move (by conv => lhs; whnf)) ?_
      refine RL.call rfl (ex_call3 rfl (by conv => lhs; whnf) (by conv => lhs; whnf) (by conv => lhs; whnf) Yba.fun6) (hst3.set_n hik (hN i hik)) ?_
      rintro v w4 ⟨hst4, hf4⟩
      refine RL.nil ?_
      refine WP.region ?_
      refine RL.val rfl (ex_move (by conv => lhs; whnf)) ?_
      refine RL.val rfl (ex_move (by conv => lhs; whnf)) ?_
      refine RL.call rfl (ex_call3 rfl (by conv => lhs; whnf) (by conv => lhs; whnf) (by conv => lhs; whnf) Yba.fun6) (hst4.set_o hik (hO i hik)) ?_
      rintro v w5 ⟨hst5, hf5⟩
      refine RL.nil ?_
      refine WP.region ?_
      refine RL.val rfl (ex_move (by conv => lhs; whnf)) ?_
      refine RL.val rfl (ex_add (c := ((i + 1 : Nat) : Int)) (by conv => lhs; whnf) (by conv => lhs; whnf) (by rw [IntKind.wrap_i64]; omega)) ?_
      refine RL.val rfl (ex_assign (by conv => lhs; whnf)) ?_
      refine RL.nil ?_
      rw [upto_succ, upto_succ] at hst5
      exact hK (k - (i + 1)) _ _ (by omega) ⟨i + 1, rfl, by omega, ⟨rfl, rfl, rfl, rfl, rfl, trivial⟩, hst5, (hq3.keep hf4 hQ).keep hf5 hQ, ((hfr.trans hf3 (fun _ _ h => h.elim)).trans hf4 (fun b _ h => hSB b h)).trans hf5 (fun b _ h => hSB b h)⟩
    · have hik : i = k := by have := of_decide_eq_false hlt1; omega
      refine WP.exit ?_
      repeat (first | refine thenQ_exit ?_ | refine blockQ_hit ?_ | refine blockQ_miss rfl ?_)
      subst hik
      refine ⟨⟨rfl, rfl, rfl, rfl, trivial⟩, hst.congr (fun t ht => by simp [upto, ht]) (fun t ht => by simp [upto, ht]), hq, ?_, hfr⟩
      obtain ⟨c, hc, _⟩ := hq.ex
      have := lt_of hc
      omega
  clear hst2 hq hfr2
  rintro F w3 ⟨hF, hst3, hq3, hlt3, hfr3⟩
  obtain ⟨G, rfl⟩ := hF.get
  clear hF
  refine WP.seq ?_
  refine WP.draw [9] (by kernel_rfl) ?_
  refine AE.take 0 rfl (by kernel_rfl) rfl (fun w' hw => ex_move (by conv => lhs; whnf)) (Ext.drew (Ext.refl _) 1) ?_
  refine AE.take 1 rfl (by kernel_rfl) rfl (fun w' hw => ex_nilCheck (by conv => lhs; whnf)) (Ext.drew (Ext.refl _) 1) ?_
  refine AE.take 2 rfl (by kernel_rfl) rfl (fun w' hw => ex_fieldAddr (by conv => lhs; whnf) Yba.fo59_9) (Ext.drew (Ext.refl _) 1) ?_
  refine AE.take 3 rfl (by kernel_rfl) rfl (fun w' hw => ex_load (by conv => lhs; whnf) Yba.sc30 (Ext.cell hw hst3.fx.classes)) (Ext.drew (Ext.refl _) 1) ?_
  refine AE.take 4 rfl (by kernel_rfl) rfl (fun w' hw => ex_move (by conv => lhs; whnf)) (Ext.drew (Ext.refl _) 1) ?_
  refine AE.take 5 rfl (by kernel_rfl) rfl (fun w' hw => ex_ixa (i := 0) (m := 0) (by conv => lhs; whnf) (by conv => lhs; whnf) Yba.sl48 Yba.sz26 rfl (by omega)) (Ext.drew (Ext.refl _) 1) ?_
  refine AE.take 6 rfl (by kernel_rfl) rfl (fun w' hw => ex_load (by conv => lhs; whnf) Yba.sc26 (Ext.cell hw (hq3.cell hk0))) (Ext.drew (Ext.refl _) 1) ?_
  refine AE.take 7 rfl (by kernel_rfl) rfl (fun w' hw => ex_indexAddr (i := 0) (m := 0) (by conv => lhs; whnf) (by conv => lhs; whnf) Yba.sl30 Yba.sz65 rfl (by omega)) (Ext.drew (Ext.refl _) 1) ?_
  refine AE.take 8 rfl (by kernel_rfl) rfl (fun w' hw => ex_fieldAddr (by conv => lhs; whnf) Yba.fo65_1) (Ext.drew (Ext.refl _) 1) ?_
  refine AE.unit 9 rfl (by kernel_rfl) (ex_store (by conv => lhs; whnf) (by conv => lhs; whnf) Yba.sc26 rfl hst3.cl rfl) (fun h => absurd h (by decide)) ?_
  refine AE.nil (by kernel_rfl) ?_
  have hst4 := (hst3.pure (Fr.drew (Fr.refl _) 1)).set_nw (2048 + π 0)
  have hfr4 : Fr (SB bM bC) w3 ((w3.drewN 1).setRow bC #[.int .i64 0, .int .u32 ((2048 + π 0 : Nat) : Int), .int .u32 ((0 : Nat) : Int), .int .i64 0]) := (Fr.drew (Fr.refl w3) 1).set _ _ (fun _ => .inr rfl)
  have hq4 := hq3.keep hfr4 hQ
  have hfr4' := hfr3.trans hfr4 (fun b _ h => hSB b h)
  have hlt4 := hfr4.size
  refine WP.seqc (fun F wr => Has F [(7, .int .i64 (k : Nat)), (9, .int .i64 (j : Nat)), (10, .pointer (some ⟨bS, 0, none⟩)), (11, .slice (some ⟨bQ, 0, none⟩) k k)] ∧
    St wr bS bP bC bM k π (N0 π) (O0 π k) (2048 + π 0) (2048 + π (k - 1)) ∧ Seq wr bQ k π ∧ w1.heap.size < wr.heap.size ∧ Fr (fun b => w.heap.size ≤ b) w wr) ?_ ?_
  · refine WP.draw [11] (by kernel_rfl) ?_
    refine AE.take 0 rfl (by kernel_rfl) rfl (fun w' hw => ex_move (by conv => lhs; whnf)) (Ext.drew (Ext.refl _) 1) ?_
    refine AE.take 1 rfl (by kernel_rfl) rfl (fun w' hw => ex_nilCheck (by conv => lhs; whnf)) (Ext.drew (Ext.refl _) 1) ?_
    refine AE.take 2 rfl (by kernel_rfl) rfl (fun w' hw => ex_fieldAddr (by conv => lhs; whnf) Yba.fo59_9) (Ext.drew (Ext.refl _) 1) ?_
    refine AE.take 3 rfl (by kernel_rfl) rfl (fun w' hw => ex_load (by conv => lhs; whnf) Yba.sc30 (Ext.cell hw hst4.fx.classes)) (Ext.drew (Ext.refl _) 1) ?_
    refine AE.take 4 rfl (by kernel_rfl) rfl (fun w' hw => ex_move (by conv => lhs; whnf)) (Ext.drew (Ext.refl _) 1) ?_
    refine AE.take 5 rfl (by kernel_rfl) rfl (fun w' hw => ex_move (by conv => lhs; whnf)) (Ext.drew (Ext.refl _) 1) ?_
    refine AE.take 6 rfl (by kernel_rfl) rfl (fun w' hw => ex_sub (c := ((k - 1 : Nat) : Int)) (by conv => lhs; whnf) (by conv => lhs; whnf) (by rw [IntKind.wrap_i64]; omega)) (Ext.drew (Ext.refl _) 1) ?_
    refine AE.take 7 rfl (by kernel_rfl) rfl (fun w' hw => ex_ix1 (by conv => lhs; whnf) (by conv => lhs; whnf) Yba.sl48 Yba.sz26 rfl (by omega)) (Ext.drew (Ext.refl _) 1) ?_
    refine AE.take 8 rfl (by kernel_rfl) rfl (fun w' hw => ex_load (by conv => lhs; whnf) Yba.sc26 (Ext.cell hw (hq4.cell (i := k - 1) (by omega)))) (Ext.drew (Ext.refl _) 1) ?_
    refine AE.take 9 rfl (by kernel_rfl) rfl (fun w' hw => ex_indexAddr (i := 0) (m := 0) (by conv => lhs; whnf) (by conv => lhs; whnf) Yba.sl30 Yba.sz65 rfl (by omega)) (Ext.drew (Ext.refl _) 1) ?_
    refine AE.take 10 rfl (by kernel_rfl) rfl (fun w' hw => ex_fieldAddr (by conv => lhs; whnf) Yba.fo65_2) (Ext.drew (Ext.refl _) 1) ?_
    refine AE.unit 11 rfl (by kernel_rfl) (ex_store (by conv => lhs; whnf) (by conv => lhs; whnf) Yba.sc26 rfl hst4.cl rfl) (fun h => absurd h (by decide)) ?_
    refine AE.nil (by kernel_rfl) ?_
    have hst5 := (hst4.pure (Fr.drew (Fr.refl _) 1)).set_od (2048 + π (k - 1))
    have hfr5 := (Fr.set (S := SB bM bC) (Fr.drew (Fr.refl ((w3.drewN 1).setRow bC #[.int .i64 0, .int .u32 ((2048 + π 0 : Nat) : Int), .int .u32 ((0 : Nat) : Int), .int .i64 0])) 1) bC #[.int .i64 0, .int .u32 ((2048 + π 0 : Nat) : Int), .int .u32 ((2048 + π (k - 1) : Nat) : Int), .int .i64 0] (fun _ => .inr rfl))
    have hlt5 := hfr5.size
    exact ⟨⟨rfl, rfl, rfl, rfl, trivial⟩, hst5, hq4.keep hfr5 hQ, Nat.lt_of_lt_of_le hlt3 (Nat.le_trans hlt4 hlt5), hfr4'.trans hfr5 (fun b _ h => hSB b h)⟩
  clear hst4 hfr4 hq4 hfr4' hlt4 hst3 hq3 hlt3 hfr3
  rintro F w4 ⟨hF, hst4, hq4, hlt4, hfr4⟩
  obtain ⟨G, rfl⟩ := hF.get
  clear hF
  refine WP.seq ?_
  refine WP.region ?_
  refine RL.val rfl (ex_move (by conv => lhs; whnf)) ?_
  refine RL.val rfl (ex_move (by conv => lhs; whnf)) ?_
  refine RL.val rfl (ex_ix1 (by conv => lhs; whnf) (by conv => lhs; whnf) Yba.sl48 Yba.sz26 rfl (by omega)) ?_
  refine RL.val rfl (ex_load (by conv => lhs; whnf) Yba.sc26 (hq4.cell hj)) ?_
  refine RL.val rfl (ex_assign (by conv => lhs; whnf)) ?_
  refine RL.nil ?_
  refine WP.seq ?_
  refine WP.region ?_
  refine RL.val rfl (ex_move (by conv => lhs; whnf)) ?_
  refine RL.val rfl (ex_move (by conv => lhs; whnf)) ?_
  refine RL.call rfl (ex_call2 rfl (by conv => lhs; whnf) (by conv => lhs; whnf) Yba.fun7) (unlink hst4 hj rfl rfl) ?_
  rintro v w5 ⟨hst5, hf5⟩
  refine RL.nil ?_
  have hq5 := hq4.keep hf5 hQ
  have hfr5 := hfr4.trans hf5 (fun b _ h => hSB b h)
  have hsz5 := hf5.size
  have hst5 : St w5 bS bP bC bM k π (N1 π k j) (O1 π k j) (nw1 π k j) (od1 π k j) := hst5
  obtain ⟨B2, hB2⟩ : ∃ b, b = w5.heap.size := ⟨_, rfl⟩
  have hSz : w.heap.size ≤ B2 := by have := hfr5.size; omega
  let X : Nat → Value := fun t => .int .u32 ((2048 + π (ex' j t) : Nat) : Int)
  refine WP.seq ?_
  have FRsz := Fr.size hfr5
  refine WP.region ?_
  refine RL.val rfl (ex_move (by conv => lhs; whnf)) ?_
  refine RL.val rfl (ex_makeSlice (l := 0) (c := k) (q := B2) (by rfl) (by conv => lhs; whnf) Yba.sl48 Yba.in26 (by omega) (by omega) (by omega) hB2.symm) ?_
  refine RL.val rfl (ex_assign (by conv => lhs; whnf)) ?_
  refine RL.nil ?_
  refine WP.seqc (fun F wr => ∃ ev, Has F [(10, .pointer (some ⟨bS, 0, none⟩)), (16, .int .u32 ((2048 + π j : Nat) : Int)), (17, ev)] ∧ wr.ownsRow B2 26 1 ev (k - 1) ((List.range (k - 1)).map X) ∧
    St wr bS bP bC bM k π (N1 π k j) (O1 π k j) (nw1 π k j) (od1 π k j) ∧ Fr (fun b => w.heap.size ≤ b) w wr) ?_ ?_
  · refine WP.seq ?_
    refine WP.region ?_
    refine RL.val rfl (ex_assign (by conv => lhs; whnf)) ?_
    refine RL.nil ?_
    refine WP.block ?_
    refine WP.loopk (fun m F wr => ∃ i ev, m = k - i ∧ i ≤ k ∧ Has F [(7, .int .i64 (k : Nat)), (9, .int .i64 (j : Nat)), (10, .pointer (some ⟨bS, 0, none⟩)), (11, .slice (some ⟨bQ, 0, none⟩) k k), (16, .int .u32 ((2048 + π j : Nat) : Int)), (17, ev), (18, .int .i64 (i : Nat))] ∧
      wr.ownsRow B2 26 1 ev (cnt j i) ((List.range (cnt j i)).map X) ∧ B2 ≤ wr.heap.size ∧ St wr bS bP bC bM k π (N1 π k j) (O1 π k j) (nw1 π k j) (od1 π k j) ∧ Seq wr bQ k π ∧ Fr (fun b => w.heap.size ≤ b) w wr) k
      ⟨0, .slice (some ⟨B2, 0, none⟩) 0 k, rfl, Nat.zero_le _, ⟨rfl, rfl, rfl, rfl, rfl, rfl, rfl, trivial⟩, ?_, ?_, hst5.pure ((Fr.refl _).alloc _), hq5.pure ((Fr.refl _).alloc _), (Fr.alloc hfr5 _)⟩ ?_
    · have e : cnt j 0 = 0 := by simp [cnt]
      rw [e, hB2]
      exact World.ownsRow_made w5 _ k (Nat.le_refl _) (by simp only [maxLen]; omega) (size_madeCells _ _)
    · rw [sz_al]; omega
    rintro m F wr ⟨i, ev, rfl, hi, hF, hown, hBw, hst, hq, hfr⟩ K hK
    obtain ⟨G, rfl⟩ := hF.get
    clear hF
    have hcl : cnt j i ≤ i := by unfold cnt; split <;> omega
    refine WP.seq ?_
    refine WP.seq ?_
    have FRsz := Fr.size hfr
    refine WP.region ?_
    refine RL.val rfl (ex_move (by conv => lhs; whnf)) ?_
    refine RL.val rfl (ex_move (by conv => lhs; whnf)) ?_
    refine RL.val rfl (ex_lss (by conv => lhs; whnf) (by conv => lhs; whnf)) ?_
    refine RL.nil ?_
    refine WP.cond _ (by conv => lhs; whnf) (fun hlt1 => ?_) (fun hlt1 => ?_)
    · have hik : i < k := by have := of_decide_eq_true hlt1; omega
      refine WP.skip ?_
      refine WP.seq ?_
      refine WP.block ?_
      refine WP.seq ?_
      refine WP.region ?_
      refine RL.val rfl (ex_move (by conv => lhs; whnf)) ?_
      refine RL.val rfl (ex_move (by conv => lhs; whnf)) ?_
      refine RL.val rfl (ex_neq (by conv => lhs; whnf) (by conv => lhs; whnf)) ?_
      refine RL.nil ?_
      by_cases hij : i = j
      · refine WP.cond_false (congrArg Value.bool (decide_eq_false (by omega))) ?_
        refine WP.skip ?_
        refine WP.region ?_
        refine RL.val rfl (ex_move (by conv => lhs; whnf)) ?_
        refine RL.val rfl (ex_add (c := ((i + 1 : Nat) : Int)) (by conv => lhs; whnf) (by conv => lhs; whnf) (by rw [IntKind.wrap_i64]; omega)) ?_
        refine RL.val rfl (ex_assign (by conv => lhs; whnf)) ?_
        refine RL.nil ?_
        refine hK (k - (i + 1)) _ _ (by omega) ⟨i + 1, ev, rfl, by omega, ⟨rfl, rfl, rfl, rfl, rfl, rfl, rfl, trivial⟩, ?_, hBw, hst, hq, hfr⟩
        have e : cnt j (i + 1) = cnt j i := by rw [hij]; exact cnt_hit
        rw [e]
        exact hown
      · refine WP.cond_true (congrArg Value.bool (decide_eq_true (by omega))) ?_
        obtain ⟨hc1, hc2⟩ := cnt_miss hij
        refine WP.region ?_
        refine RL.val rfl (ex_move (by conv => lhs; whnf)) ?_
        refine RL.val rfl (ex_move (by conv => lhs; whnf)) ?_
        refine RL.val rfl (ex_move (by conv => lhs; whnf)) ?_
        refine RL.val rfl (ex_ix1 (by conv => lhs; whnf) (by conv => lhs; whnf) Yba.sl48 Yba.sz26 rfl (by omega)) ?_
        refine RL.val rfl (ex_load (by conv => lhs; whnf) Yba.sc26 (hq.cell hik)) ?_
        refine RL.val rfl (ex_buildSlice1 (by conv => lhs; whnf) Yba.sl48 Yba.sz26 Yba.zo26 rfl rfl rfl (by first | (conv => lhs; simp only [sz_al, sz_sr, sz_dn]) | rfl)) ?_
        refine RL.append1 B2 rfl Yba.sl48 Yba.in26 rfl rfl rfl (by conv => lhs; whnf) (by conv => lhs; whnf) (hown.alloc _) (an' (by first | (simp only [sz_al, sz_sr, sz_dn]; done) | rfl | omega | (simp only [sz_al, sz_sr, sz_dn]; omega))) (by rfl) (by rfl) (by omega) (by rw [sz_al]; omega) ?_
        intro ev' w6 hown' hgr hsv
        have hrow : ∀ kk, ev.ownBlock = some kk → kk < wr.heap.size → B2 ≤ kk := fun kk hkk _ => (hown.lt kk hkk).1
        have hfg : Fr (fun b => B2 ≤ b) wr w6 := (Fr.refl wr).growna hgr hrow
        have hst6 := hst.keep hfg (by show ¬ B2 ≤ bS; omega) (by show ¬ B2 ≤ bP; omega) (by show ¬ B2 ≤ bC; omega) (by show ¬ B2 ≤ bM; omega)
        have hq6 := hq.keep hfg (by show ¬ B2 ≤ bQ; omega)
        have hsz6 := hfg.size
        refine RL.val rfl (ex_assign (by conv => lhs; whnf)) ?_
        refine RL.nil ?_
        refine WP.region ?_
        refine RL.val rfl (ex_move (by conv => lhs; whnf)) ?_
        refine RL.val rfl (ex_add (c := ((i + 1 : Nat) : Int)) (by conv => lhs; whnf) (by conv => lhs; whnf) (by rw [IntKind.wrap_i64]; omega)) ?_
        refine RL.val rfl (ex_assign (by conv => lhs; whnf)) ?_
        refine RL.nil ?_
        refine hK (k - (i + 1)) _ _ (by omega) ⟨i + 1, ev', rfl, by omega, ⟨rfl, rfl, rfl, rfl, rfl, rfl, rfl, trivial⟩, ?_, by omega, hst6, hq6, hfr.trans hfg (fun b _ h => by have : B2 ≤ b := h; omega)⟩
        rw [hc1, List.range_succ, List.map_append]
        have e : X (cnt j i) = .int .u32 ((2048 + π i : Nat) : Int) := by show Value.int .u32 ((2048 + π (ex' j (cnt j i)) : Nat) : Int) = _; rw [hc2]
        simp only [List.map_cons, List.map_nil, e]
        exact hown'
    · have hik : i = k := by have := of_decide_eq_false hlt1; omega
      refine WP.exit ?_
      repeat (first | refine thenQ_exit ?_ | refine blockQ_hit ?_ | refine blockQ_miss rfl ?_)
      rw [hik, cnt_end hj] at hown
      exact ⟨ev, ⟨rfl, rfl, rfl, trivial⟩, hown, hst, hfr⟩
  clear hst5 hq5 hfr5 hq4 hst4 hfr4
  rintro F w6 ⟨ev, hF, hown, hst6, hfr6⟩
  obtain ⟨G, rfl⟩ := hF.get
  clear hF
  refine WP.seq ?_
  have FRsz := Fr.size hfr6
  refine WP.region ?_
  refine RL.val rfl (ex_move (by conv => lhs; whnf)) ?_
  refine RL.val rfl (ex_nilCheck (by conv => lhs; whnf)) ?_
  refine RL.val rfl (ex_fieldAddr (by conv => lhs; whnf) Yba.fo59_9) ?_
  refine RL.val rfl (ex_load (by conv => lhs; whnf) Yba.sc30 hst6.fx.classes) ?_
  refine RL.val rfl (ex_indexAddr (i := 0) (m := 0) (by conv => lhs; whnf) (by conv => lhs; whnf) Yba.sl30 Yba.sz65 rfl (by omega)) ?_
  refine RL.val rfl (ex_loadW (by conv => lhs; whnf) hst6.cl Yba.ag65 (by rfl)) ?_
  refine RL.val rfl (ex_alloc Yba.zo65 (by first | (conv => lhs; simp only [sz_al, sz_sr, sz_dn]) | rfl)) ?_
  refine RL.unit (ex_storeW (by conv => lhs; whnf) (by conv => lhs; whnf) Yba.ag65 (an' (by first | (simp only [sz_al, sz_sr, sz_dn]; done) | rfl | omega | (simp only [sz_al, sz_sr, sz_dn]; omega))) (by rfl) (by rfl) (by rfl)) ?_
  refine RL.nil ?_
  refine WP.seq ?_
  refine WP.region ?_
  refine RL.val rfl (ex_fieldAddr (by conv => lhs; whnf) Yba.fo65_1) ?_
  refine RL.val rfl (ex_loadB (by conv => lhs; whnf) Yba.sc26 (sr_eq (an' (by first | (simp only [sz_al, sz_sr, sz_dn]; done) | rfl | omega | (simp only [sz_al, sz_sr, sz_dn]; omega)))) (by conv => lhs; whnf)) ?_
  refine RL.val rfl (ex_assign (by conv => lhs; whnf)) ?_
  refine RL.nil ?_
  refine WP.seq ?_
  refine WP.region ?_
  refine RL.val rfl (ex_assign (by conv => lhs; whnf)) ?_
  refine RL.nil ?_
  obtain ⟨bL, hbL⟩ : ∃ b, b = w6.heap.size := ⟨_, rfl⟩
  have hLB : w.heap.size ≤ bL := by have := hfr6.size; omega
  refine WP.seqc (fun F wr => Has F [(10, .pointer (some ⟨bS, 0, none⟩)), (16, .int .u32 ((2048 + π j : Nat) : Int)), (19, .pointer (some ⟨bL, 0, none⟩)), (20, .int .u32 ((0 : Nat) : Int)), (21, .int .u32 (prevV π j (k - 1) : Nat))] ∧
    wr.heap[bL]? = some (.cells #[.int .i64 0, .int .u32 (nw1 π k j : Nat), .int .u32 (prevV π j (k - 1) : Nat), .int .i64 0] 65 (0, 0)) ∧
    St wr bS bP bC bM k π (N1 π k j) (O1 π k j) (nw1 π k j) (od1 π k j) ∧ Fr (fun b => w.heap.size ≤ b) w wr) ?_ ?_
  · refine WP.seq ?_
    refine WP.region ?_
    refine RL.val rfl (ex_assign (by conv => lhs; whnf)) ?_
    refine RL.nil ?_
    have h19 : ((w6.alloc (.cells (Value.agg #[Value.int .i64 0, Value.int .u32 0, Value.int .u32 0, Value.int .i64 0]).cells 65)).setRow w6.heap.size #[.int .i64 0, .int .u32 (nw1 π k j : Nat), .int .u32 (od1 π k j : Nat), .int .i64 0]).heap[w6.heap.size]? = some (.cells #[.int .i64 0, .int .u32 (nw1 π k j : Nat), .int .u32 (od1 π k j : Nat), .int .i64 0] 65 (0, 0)) := (sr_eq (an' (by first | (simp only [sz_al, sz_sr, sz_dn]; done) | rfl | omega | (simp only [sz_al, sz_sr, sz_dn]; omega))))
    have hfr7 : Fr (fun b => w.heap.size ≤ b) w ((w6.alloc (.cells (Value.agg #[Value.int .i64 0, Value.int .u32 0, Value.int .u32 0, Value.int .i64 0]).cells 65)).setRow w6.heap.size #[.int .i64 0, .int .u32 (nw1 π k j : Nat), .int .u32 (od1 π k j : Nat), .int .i64 0]) := (Fr.set (Fr.alloc hfr6 _) _ _ (fun hh => by first | exact rfl | ((try simp only [sz_al, sz_sr, sz_dn] at hh); (try simp only [sz_al, sz_sr, sz_dn]); (first | omega | (dsimp only; omega) | exact .inl rfl | exact .inr (.inl rfl)))))
    have hfrL : Fr (fun b => bL ≤ b) w6 (((w6.alloc (.cells (Value.agg #[Value.int .i64 0, Value.int .u32 0, Value.int .u32 0, Value.int .i64 0]).cells 65))).setRow w6.heap.size #[.int .i64 0, .int .u32 (nw1 π k j : Nat), .int .u32 (od1 π k j : Nat), .int .i64 0]) :=
      ((Fr.refl w6).alloc _).set _ _ (fun hh => by omega)
    have ltM6 : bM < bL := by obtain ⟨c, hc, _⟩ := hst6.mm.ex; rw [hbL]; exact lt_of hc
    have ltC6 : bC < bL := by rw [hbL]; exact lt_of hst6.cl
    have ltS6 : bS < bL := by rw [hbL]; exact World.block_lt_of_cell? _ _ hst6.fx.pages
    have ltP6 : bP < bL := by rw [hbL]; exact World.block_lt_of_cell? _ _ hst6.fx.mem
    have hst7 := hst6.keep hfrL (by show ¬ bL ≤ bS; omega) (by show ¬ bL ≤ bP; omega) (by show ¬ bL ≤ bC; omega) (by show ¬ bL ≤ bM; omega)
    have hown7 := (hown.alloc (.cells (Value.agg #[Value.int .i64 0, Value.int .u32 0, Value.int .u32 0, Value.int .i64 0]).cells 65))
    have hown8 := own_sr (g := w6.heap.size) (cs := #[.int .i64 0, .int .u32 (nw1 π k j : Nat), .int .u32 (od1 π k j : Nat), .int .i64 0]) hown7 (own_ge hown (Nat.le_refl _))
    refine WP.block ?_
    refine WP.loopk (fun m F wr => ∃ t : Nat, m = k - 1 - t ∧ t + 1 ≤ k ∧ Has F [(10, .pointer (some ⟨bS, 0, none⟩)), (16, .int .u32 ((2048 + π j : Nat) : Int)), (17, ev), (19, .pointer (some ⟨bL, 0, none⟩)), (20, .int .u32 (curV π k j t : Nat)), (21, .int .u32 (prevV π j t : Nat)), (22, .int .i64 (t : Nat))] ∧
      wr.heap[bL]? = some (.cells #[.int .i64 0, .int .u32 (nw1 π k j : Nat), .int .u32 (prevV π j (k - 1) : Nat), .int .i64 0] 65 (0, 0)) ∧
      wr.ownsRow B2 26 1 ev (k - 1) ((List.range (k - 1)).map X) ∧ St wr bS bP bC bM k π (N1 π k j) (O1 π k j) (nw1 π k j) (od1 π k j) ∧ Fr (fun b => w.heap.size ≤ b) w wr) (k - 1)
      ⟨0, rfl, by omega, ⟨rfl, rfl, rfl, (by rw [hbL]; rfl), (by rw [← nw1_cur hj]; rfl), rfl, rfl, trivial⟩, (by rw [← od1_prev hj, hbL]; exact h19), hown8, hst7, hfr7⟩ ?_
    clear hst7 hown7 hown8 hfrL hfr7 h19 hst6 hfr6 hown
    rintro m F wr ⟨t, rfl, ht, hF, hL, hown, hst, hfr⟩ K hK
    obtain ⟨ea, ecap, hev, _⟩ := own_value hown
    rw [hev] at hF
    by_cases htk : t + 1 < k
    · have hcur : curV π k j t = 2048 + π (ex' j t) := by unfold curV; rw [if_pos htk]
      have hel : ex' j t < k := by unfold ex'; split <;> omega
      rw [hcur] at hF
      obtain ⟨g, cap', hev2, hcell⟩ := own_get hown (m := t) (u := X t) (by rw [List.getElem?_map, List.getElem?_range (by omega)]; rfl)
      rw [hev] at hev2
      cases hev2
      obtain ⟨G, rfl⟩ := hF.get
      clear hF
      refine WP.seq ?_
      refine WP.seq ?_
      have FRsz := Fr.size hfr
      refine WP.region ?_
      refine RL.val rfl (ex_move (by conv => lhs; whnf)) ?_
      refine RL.val rfl (ex_move (by conv => lhs; whnf)) ?_
      refine RL.val rfl (ex_len (by conv => lhs; whnf) Yba.sl48) ?_
      refine RL.val rfl (ex_lss (by conv => lhs; whnf) (by conv => lhs; whnf)) ?_
      refine RL.nil ?_
      refine WP.cond_true (congrArg Value.bool (decide_eq_true (by omega))) ?_
      refine WP.skip ?_
      refine WP.seq ?_
      refine WP.block ?_
      refine WP.seq ?_
      refine WP.seq ?_
      refine WP.region ?_
      refine RL.val rfl (ex_move (by conv => lhs; whnf)) ?_
      refine RL.val rfl (ex_move (by conv => lhs; whnf)) ?_
      refine RL.val rfl (ex_move (by conv => lhs; whnf)) ?_
      refine RL.val rfl (ex_ix1 (by conv => lhs; whnf) (by conv => lhs; whnf) Yba.sl48 Yba.sz26 rfl (by omega)) ?_
      refine RL.val rfl (ex_load (by conv => lhs; whnf) Yba.sc26 hcell) ?_
      refine RL.val rfl (ex_neq (by conv => lhs; whnf) (by conv => lhs; whnf)) ?_
      refine RL.nil ?_
      refine WP.cond_false (congrArg Value.bool (decide_eq_false (by simp))) ?_
      refine WP.skip ?_
      refine WP.seq ?_
      refine WP.region ?_
      refine RL.val rfl (ex_move (by conv => lhs; whnf)) ?_
      refine RL.val rfl (ex_move (by conv => lhs; whnf)) ?_
      refine RL.call rfl (ex_call2 rfl (by conv => lhs; whnf) (by conv => lhs; whnf) Yba.fun5) (hst.chunk hel) ?_
      rintro v w7 ⟨rfl, hf7⟩
      refine RL.val rfl (ex_assign (by conv => lhs; whnf)) ?_
      refine RL.nil ?_
      have hst7 := hst.pure hf7
      refine WP.seq ?_
      refine WP.seq ?_
      refine WP.region ?_
      refine RL.val rfl (ex_move (by conv => lhs; whnf)) ?_
      refine RL.call rfl (ex_call2 rfl (by conv => lhs; whnf) (by conv => lhs; whnf) Yba.fun8) (by have := hst7.read_n hel; rw [N1_prev hj htk] at this; exact this) ?_
      rintro v w8 ⟨rfl, hf8⟩
      refine RL.val rfl (ex_move (by conv => lhs; whnf)) ?_
      refine RL.val rfl (ex_neq (by conv => lhs; whnf) (by conv => lhs; whnf)) ?_
      refine RL.nil ?_
      refine WP.cond_false (congrArg Value.bool (decide_eq_false (by simp))) ?_
      refine WP.skip ?_
      have hst8 := hst7.pure hf8
      refine WP.seq ?_
      refine WP.region ?_
      refine RL.val rfl (ex_move (by conv => lhs; whnf)) ?_
      refine RL.val rfl (ex_assign (by conv => lhs; whnf)) ?_
      refine RL.nil ?_
      refine WP.region ?_
      refine RL.val rfl (ex_move (by conv => lhs; whnf)) ?_
      refine RL.call rfl (ex_call2 rfl (by conv => lhs; whnf) (by conv => lhs; whnf) Yba.fun8) (by have := hst8.read_o hel; rw [O1_cur hj htk] at this; exact this) ?_
      rintro v w9 ⟨rfl, hf9⟩
      refine RL.val rfl (ex_assign (by conv => lhs; whnf)) ?_
      refine RL.nil ?_
      refine WP.region ?_
      refine RL.val rfl (ex_move (by conv => lhs; whnf)) ?_
      refine RL.val rfl (ex_add (c := ((t + 1 : Nat) : Int)) (by conv => lhs; whnf) (by conv => lhs; whnf) (by rw [IntKind.wrap_i64]; omega)) ?_
      refine RL.val rfl (ex_assign (by conv => lhs; whnf)) ?_
      refine RL.nil ?_
      have hf789 := hf7.trans (hf8.trans hf9 (fun _ _ h => h)) (fun _ _ h => h)
      have hprev : prevV π j (t + 1) = 2048 + π (ex' j t) := by unfold prevV; rw [if_neg (by omega), Nat.add_sub_cancel]
      refine hK (k - 1 - (t + 1)) _ _ (by omega) ⟨t + 1, rfl, by omega, ⟨rfl, rfl, hev.symm, rfl, rfl, (by rw [hprev]; rfl), rfl, trivial⟩, hf789.keep hL id, hf789.own hown (fun _ _ => id), hst8.pure hf9, hfr.trans hf789 (fun _ _ h => h.elim)⟩
    · have htk' : t = k - 1 := by omega
      have hcur : curV π k j t = 0 := by rw [htk']; exact curV_end hj
      rw [hcur] at hF
      obtain ⟨G, rfl⟩ := hF.get
      clear hF
      refine WP.seq ?_
      refine WP.seq ?_
      have FRsz := Fr.size hfr
      refine WP.region ?_
      refine RL.val rfl (ex_move (by conv => lhs; whnf)) ?_
      refine RL.val rfl (ex_move (by conv => lhs; whnf)) ?_
      refine RL.val rfl (ex_len (by conv => lhs; whnf) Yba.sl48) ?_
      refine RL.val rfl (ex_lss (by conv => lhs; whnf) (by conv => lhs; whnf)) ?_
      refine RL.nil ?_
      refine WP.cond_false (congrArg Value.bool (decide_eq_false (by omega))) ?_
      refine WP.exit ?_
      repeat (first | refine thenQ_exit ?_ | refine blockQ_hit ?_ | refine blockQ_miss rfl ?_)
      exact ⟨⟨rfl, rfl, rfl, rfl, (by rw [← htk']; rfl), trivial⟩, hL, hst, hfr⟩
  rintro F w7 ⟨hF, hL, hst7, hfr7⟩
  obtain ⟨G, rfl⟩ := hF.get
  clear hF
  refine WP.seq ?_
  refine WP.seq ?_
  have LT19 := lt_of hL
  have FRsz := Fr.size hfr7
  refine WP.region ?_
  refine RL.val rfl (ex_move (by conv => lhs; whnf)) ?_
  refine RL.val rfl (ex_neq (by conv => lhs; whnf) (by conv => lhs; whnf)) ?_
  refine RL.val rfl (ex_move (by conv => lhs; whnf)) ?_
  refine RL.take (dj := 158) rfl rfl ?_
  refine RL.val rfl (ex_fieldAddr (by conv => lhs; whnf) Yba.fo65_2) ?_
  refine RL.take (dj := 158) rfl rfl ?_
  refine RL.val rfl (ex_loadB (by conv => lhs; whnf) Yba.sc26 hL (by conv => lhs; whnf)) ?_
  refine RL.take (dj := 158) rfl rfl ?_
  refine RL.val rfl (ex_move (by conv => lhs; whnf)) ?_
  refine RL.take (dj := 158) rfl rfl ?_
  refine RL.val rfl (ex_neq (by conv => lhs; whnf) (by conv => lhs; whnf)) ?_
  refine RL.val rfl (ex_pick_f rfl (by conv => lhs; whnf)) ?_
  refine RL.nil ?_
  refine WP.cond_false (congrArg Value.bool (decide_eq_false (by simp))) ?_
  refine WP.skip ?_
  refine WP.seq ?_
  refine WP.region ?_
  refine RL.val rfl (ex_move (by conv => lhs; whnf)) ?_
  refine RL.val rfl (ex_move (by conv => lhs; whnf)) ?_
  refine RL.call rfl (ex_call2 rfl (by conv => lhs; whnf) (by conv => lhs; whnf) Yba.fun5) (hst7.chunk hj) ?_
  rintro v w8 ⟨rfl, hf8⟩
  refine RL.val rfl (ex_assign (by conv => lhs; whnf)) ?_
  refine RL.nil ?_
  have hst8 := hst7.pure hf8
  refine WP.seq ?_
  refine WP.region ?_
  refine RL.val rfl (ex_move (by conv => lhs; whnf)) ?_
  refine RL.call rfl (ex_call2 rfl (by conv => lhs; whnf) (by conv => lhs; whnf) Yba.fun8) (by have := hst8.read_n hj; rw [N1_gone] at this; exact this) ?_
  rintro v w9 ⟨rfl, hf9⟩
  have hst9 := hst8.pure hf9
  refine RL.val rfl (ex_eql (by conv => lhs; whnf) (by conv => lhs; whnf)) ?_
  refine RL.val rfl (ex_move (by conv => lhs; whnf)) ?_
  refine RL.take (dj := 170) rfl rfl ?_
  refine RL.val rfl (ex_move (by conv => lhs; whnf)) ?_
  refine RL.take (dj := 170) rfl rfl ?_
  refine RL.call rfl (ex_call2 rfl (by conv => lhs; whnf) (by conv => lhs; whnf) Yba.fun8) (by have := hst9.read_o hj; rw [O1_gone] at this; exact this) ?_
  rintro v w10 ⟨rfl, hf10⟩
  refine RL.take (dj := 170) rfl rfl ?_
  refine RL.val rfl (ex_eql (by conv => lhs; whnf) (by conv => lhs; whnf)) ?_
  refine RL.val rfl (ex_pick_t rfl (by conv => lhs; whnf)) ?_
  refine RL.val rfl (ex_assign (by conv => lhs; whnf)) ?_
  refine RL.nil ?_
  refine WP.ret ?_
  repeat (first | refine thenQ_ret ?_ | refine blockQ_ret ?_)
  exact bodyQ_tmp rfl ⟨rfl, hfr7.trans (hf8.trans (hf9.trans hf10 (fun _ _ h => h)) (fun _ _ h => h)) (fun _ _ h => h.elim)⟩
end Go.Proofs.Ybulknlk
