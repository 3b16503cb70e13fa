/- The row of handles that is laid; what the law's own walk leans on besides. -/
import Derived.Test.YbulknlkPlain
namespace Go.Proofs.Ybulknlk
open Go Go.Eng Go.RowKit
set_option linter.unusedSimpArgs false
set_option linter.unusedVariables false

theorem ex_remN {P : Program} {ρ : Operand → Value} {ty : TypeId} {w : World} {t t' : TypeId} {x y : Operand} {k : IntKind} {a m : Nat} {b : Int} (hx : ρ x = .int k (a : Nat)) (hy : ρ y = .int k b) (hb : b = (m : Nat)) (hm : 0 < m) :
    ex P ρ (.binOp .rem t x y t') ty w = .ok (.value (.int k ((a % m : Nat) : Int))) w := by
  have h := ex_rem (P := P) (w := w) (ty := ty) (t := t) (t' := t') hx hy (by omega)
  rw [h, hb, ← Int.ofNat_tmod]
theorem own_get {w : World} {B e : Nat} {v : Value} {n m : Nat} {xs : List Value} {u : Value} (h : w.ownsRow B e 1 v n xs) (hu : xs[m]? = some u) : ∃ g cap, v = .slice (some ⟨g, 0, none⟩) n cap ∧ w.cell? ⟨g, m, none⟩ = some u := by
  have hm : m < xs.length := (List.getElem?_eq_some_iff.1 hu).1
  have hl := h.1
  rcases h.2 with ⟨_, h0⟩ | ⟨g, cap, cur, hv, hb, hg, hnc, _, _, ht⟩
  · omega
  · refine ⟨g, cap, hv, cellOf hg ?_⟩
    rw [← ht, List.getElem?_take, if_pos (by omega)] at hu
    simpa using hu

/-- The handles in their order. -/
structure Seq (w : World) (bQ k : Nat) (π : Nat → Nat) : Prop where
  ex : ∃ c : Array Value, w.heap[bQ]? = some (.cells c 26 (0, 0)) ∧ ∀ i, i < k → c[i]? = some (.int .u32 ((2048 + π i : Nat) : Int))
theorem Seq.keep {w w' : World} {bQ k : Nat} {π : Nat → Nat} {S : Nat → Prop} (h : Seq w bQ k π) (hf : Fr S w w') (hn : ¬ S bQ) : Seq w' bQ k π := ⟨let ⟨c, h1, h2⟩ := h.ex; ⟨c, hf.keep h1 hn, h2⟩⟩
theorem Seq.pure {w w' : World} {bQ k : Nat} {π : Nat → Nat} (h : Seq w bQ k π) (hf : Fr (fun _ => False) w w') : Seq w' bQ k π := h.keep hf id
theorem Seq.cell {w : World} {bQ k : Nat} {π : Nat → Nat} (h : Seq w bQ k π) {i : Nat} (hi : i < k) : w.cell? ⟨bQ, i, none⟩ = some (.int .u32 ((2048 + π i : Nat) : Int)) := let ⟨c, h1, h2⟩ := h.ex; cellOf h1 (h2 i hi)

set_option maxRecDepth 100000 in
theorem seq {w : World} {k r : Nat} (h0 : 0 < k) (hk : k ≤ 300) (hr : r < k) :
    Calls Yba.prog 4 #[.int .i64 (k : Nat), .int .i64 (r : Nat)] w fun e w' => ∃ v, e = .returned v ∧ (v = .slice (some ⟨w.heap.size, 0, none⟩) k k ∧ Seq w' w.heap.size k (rot k r) ∧ Fr (fun _ => False) w w') := by
  have hfr0 : Fr (fun _ => False) w w := Fr.refl w
  have hlt := (rot_perm (r := r) h0).lt
  refine calls_of Yba.func4 rfl rfl ?_
  refine WP.seq ?_
  have FRsz := Fr.size hfr0
  refine WP.region ?_
  refine RL.val rfl (ex_assign (by conv => lhs; whnf)) ?_
  refine RL.nil ?_
  refine WP.seq ?_
  refine WP.region ?_
  refine RL.val rfl (ex_move (by conv => lhs; whnf)) ?_
  refine RL.val rfl (ex_makeSlice (by conv => lhs; whnf) (by conv => lhs; whnf) Yba.sl48 Yba.in26 (Nat.le_refl _) (by omega) (by omega) rfl) ?_
  refine RL.val rfl (ex_assign (by conv => lhs; whnf)) ?_
  refine RL.nil ?_
  refine WP.seqc (fun F wr => Has F [(5, .slice (some ⟨w.heap.size, 0, none⟩) k k)] ∧ Seq wr w.heap.size k (rot k r) ∧ Fr (fun _ => False) w wr) ?_ ?_
  · refine WP.seq ?_
    refine WP.region ?_
    refine RL.val rfl (ex_assign (by conv => lhs; whnf)) ?_
    refine RL.nil ?_
    refine WP.block ?_
    refine WP.loopk (fun m F wr => ∃ i : Nat, m = k - i ∧ i ≤ k ∧ Has F [(0, .int .i64 (k : Nat)), (1, .int .i64 (r : Nat)), (5, .slice (some ⟨w.heap.size, 0, none⟩) k k), (6, .int .i64 (i : Nat))] ∧
      (∃ c : Array Value, wr.heap[w.heap.size]? = some (.cells c 26 (0, 0)) ∧ c.size = k ∧ ∀ t, t < i → c[t]? = some (.int .u32 ((2048 + rot k r t : Nat) : Int))) ∧ Fr (fun _ => False) w wr) k
      ⟨0, rfl, Nat.zero_le _, ⟨rfl, rfl, rfl, rfl, trivial⟩, ⟨_, (an' (by first | (simp only [sz_al, sz_sr, sz_dn]; done) | rfl | omega | (simp only [sz_al, sz_sr, sz_dn]; omega))), by rw [size_madeCells]; omega, fun t ht => by omega⟩, (Fr.alloc hfr0 _)⟩ ?_
    rintro m F wr ⟨i, rfl, hi, hF, ⟨c, hc, hcs, hct⟩, hfr⟩ K hK
    obtain ⟨G, rfl⟩ := hF.get
    clear hF
    refine WP.seq ?_
    refine WP.seq ?_
    have LT900 := lt_of hc
    have FRsz := Fr.size hfr
    refine WP.region ?_
    refine RL.val rfl (ex_move (by conv => lhs; whnf)) ?_
    refine RL.val rfl (ex_move (by conv => lhs; whnf)) ?_
    refine RL.val rfl (ex_lss (by conv => lhs; whnf) (by conv => lhs; whnf)) ?_
    refine RL.nil ?_
    refine WP.cond _ (by conv => lhs; whnf) (fun hlt1 => ?_) (fun hlt1 => ?_)
    · have hik : i < k := by have := of_decide_eq_true hlt1; omega
      refine WP.skip ?_
      refine WP.seq ?_
      refine WP.block ?_
      refine WP.region ?_
      refine RL.val rfl (ex_move (by conv => lhs; whnf)) ?_
      refine RL.val rfl (ex_move (by conv => lhs; whnf)) ?_
      refine RL.val rfl (ex_move (by conv => lhs; whnf)) ?_
      refine RL.val rfl (ex_move (by conv => lhs; whnf)) ?_
      refine RL.val rfl (ex_add (c := ((i + r : Nat) : Int)) (by conv => lhs; whnf) (by conv => lhs; whnf) (by rw [IntKind.wrap_i64]; omega)) ?_
      refine RL.val rfl (ex_move (by conv => lhs; whnf)) ?_
      refine RL.val rfl (ex_remN (by conv => lhs; whnf) (by conv => lhs; whnf) rfl h0) ?_
      refine RL.call rfl (ex_call2 rfl (by conv => lhs; whnf) (by rfl) Yba.fun9) (makeHandle (p := rot k r i) (by have := hlt i hik; omega)) ?_
      rintro v w2 ⟨rfl, rfl⟩
      refine RL.val rfl (ex_ix1 (by conv => lhs; whnf) (by conv => lhs; whnf) Yba.sl48 Yba.sz26 rfl (by omega)) ?_
      refine RL.unit (ex_store (by conv => lhs; whnf) (by conv => lhs; whnf) Yba.sc26 rfl hc (by simp; omega)) ?_
      refine RL.nil ?_
      refine WP.region ?_
      refine RL.val rfl (ex_move (by conv => lhs; whnf)) ?_
      refine RL.val rfl (ex_add (c := ((i + 1 : Nat) : Int)) (by conv => lhs; whnf) (by conv => lhs; whnf) (by rw [IntKind.wrap_i64]; omega)) ?_
      refine RL.val rfl (ex_assign (by conv => lhs; whnf)) ?_
      refine RL.nil ?_
      refine hK (k - (i + 1)) _ _ (by omega) ⟨i + 1, rfl, by omega, ⟨rfl, rfl, rfl, rfl, trivial⟩, ⟨_, (sr_eq hc), by simp [hcs], ?_⟩, Fr.set hfr _ _ (fun hh => absurd hh (by omega))⟩
      intro t ht
      by_cases hti : t = i
      · subst hti; simp [hcs, hik]
      · rw [Array.getElem?_setIfInBounds_ne (by omega)]; exact hct t (by omega)
    · have hik : i = k := by have := of_decide_eq_false hlt1; omega
      refine WP.exit ?_
      repeat (first | refine thenQ_exit ?_ | refine blockQ_hit ?_ | refine blockQ_miss rfl ?_)
      exact ⟨⟨rfl, trivial⟩, ⟨c, hc, fun t ht => hct t (by omega)⟩, hfr⟩
  · rintro F wr ⟨hF, hs, hfr⟩
    obtain ⟨G, rfl⟩ := hF.get
    clear hF
    refine WP.seq ?_
    refine WP.region ?_
    refine RL.val rfl (ex_move (by conv => lhs; whnf)) ?_
    refine RL.val rfl (ex_assign (by conv => lhs; whnf)) ?_
    refine RL.nil ?_
    refine WP.ret ?_
    repeat (first | refine thenQ_ret ?_ | refine blockQ_ret ?_)
    exact bodyQ_tmp rfl ⟨rfl, hs, hfr⟩

/-! ### The store, built -/
theorem zero59 : (zeroOf Yba.prog 59).map (fun z => z.cells.size) = some 1562 := by kernel_rfl
theorem pl59 : (places Yba.prog 59).map (fun l => (l[5]?, l[9]?)) = some (some (8, 1), some (12, 1)) := by kernel_rfl
theorem zero59' : ∃ z, zeroOf Yba.prog 59 = some z ∧ z.cells.size = 1562 := by
  cases hz : zeroOf Yba.prog 59 with
  | none => have := zero59; rw [hz] at this; cases this
  | some z => have h1 := zero59; rw [hz] at h1; exact ⟨z, rfl, by simpa using h1⟩
def cells59 (z a b : Value) : Array Value := (z.cells.setIfInBounds 8 a).setIfInBounds 12 b
theorem cells59_8 {z : Value} (h : z.cells.size = 1562) (a b : Value) : (cells59 z a b)[8]? = some a := by
  rw [cells59, Array.getElem?_setIfInBounds_ne (by omega), Array.getElem?_setIfInBounds_self_of_lt (by omega)]
theorem cells59_12 {z : Value} (h : z.cells.size = 1562) (a b : Value) : (cells59 z a b)[12]? = some b := by
  rw [cells59, Array.getElem?_setIfInBounds_self_of_lt (by simp; omega)]
theorem build59 {z : Value} (hz : zeroOf Yba.prog 59 = some z) (h1 : z.cells.size = 1562) {ρ : Operand → Value} {w : World} {ty : TypeId} {x y : Operand} {a b : Value} (hx : ρ x = a) (hy : ρ y = b) (ha : a.cells = #[a]) (hb : b.cells = #[b]) :
    ex Yba.prog ρ (.build 59 #[(5, x), (9, y)]) ty w = .ok (.value (.agg (cells59 z a b))) w := by
  unfold cells59
  cases hp : places Yba.prog 59 with
  | none => have := pl59; rw [hp] at this; cases this
  | some l =>
    have h2 := pl59
    rw [hp] at h2
    simp only [Option.map_some, Option.some.injEq, Prod.mk.injEq] at h2
    exact ex_build hz hp (by simp [Instr.fill, hx, hy, ha, hb, h2.1, h2.2, h1])

theorem made65 : madeCells (Value.agg #[Value.int .i64 0, Value.int .u32 0, Value.int .u32 0, Value.int .i64 0]).cells (1 * 4) = #[.int .i64 0, .int .u32 ((0 : Nat) : Int), .int .u32 ((0 : Nat) : Int), .int .i64 0] := by kernel_rfl

theorem make65 {ρ : Operand → Value} {w : World} {ty : TypeId} {x y : Operand} {q : Nat} (hx : ρ x = .int .i64 1) (hy : ρ y = .int .i64 1) (hq : w.heap.size = q) :
    ex Yba.prog ρ (.makeSlice 30 x y) ty w = .ok (.value (.slice (some ⟨q, 0, none⟩) 1 1)) (w.alloc (.cells #[.int .i64 0, .int .u32 ((0 : Nat) : Int), .int .u32 ((0 : Nat) : Int), .int .i64 0] 65)) := by
  have h := ex_makeSlice (P := Yba.prog) (w := w) (ty := ty) (l := 1) (c := 1) hx hy Yba.sl30 Yba.in65 (Nat.le_refl _) (by omega) (by omega) hq
  rw [made65] at h
  exact h
theorem make5 {ρ : Operand → Value} {w : World} {ty : TypeId} {x y : Operand} {q m : Nat} (hx : ρ x = .int .i64 (m : Nat)) (hy : ρ y = .int .i64 (m : Nat)) (hm : m ≤ 1000000) (hq : w.heap.size = q) :
    ex Yba.prog ρ (.makeSlice 24 x y) ty w = .ok (.value (.slice (some ⟨q, 0, none⟩) m m)) (w.alloc (.cells (madeCells #[.int .u8 0] m) 5)) := by
  have h := ex_makeSlice (P := Yba.prog) (w := w) (ty := ty) (l := m) (c := m) hx hy Yba.sl24 Yba.in5 (Nat.le_refl _) (by omega) (by omega) hq
  rw [Nat.mul_one] at h
  exact h

def pagesRow (bM k : Nat) : Array Value := #[.slice none 0 0, .int .i64 (-1), .int .i64 0, .int .i64 0, .int .i64 0, .int .u32 0, .int .i64 0, .int .i64 0,
  .slice (some ⟨bM, 0, none⟩) (k * 48) (k * 48), .int .i64 0, .int .i64 48, .int .i64 0, .int .i64 0, .int .u32 0, .int .i64 0, .int .i64 0]
theorem fixed_of {w : World} {bS bP bC bM k : Nat} {cS : Array Value} (hS : w.heap[bS]? = some (.cells cS 59 (0, 0))) (h8 : cS[8]? = some (.slice (some ⟨bP, 0, none⟩) 2 2)) (h12 : cS[12]? = some (.slice (some ⟨bC, 0, none⟩) 1 1))
    (hP : w.heap[bP]? = some (.cells (pagesRow bM k) 28 (0, 0))) : Fixed w bS bP bC bM k :=
  ⟨cellOf hS h8, cellOf hS h12, cellOf hP rfl, cellOf hP rfl, cellOf hP rfl⟩
theorem zero_at4 {c : Array Value} {o m : Nat} (hc : c = madeCells #[.int .u8 0] m) (ho : o + 4 ≤ m) : At4 c o 0 := by
  have h : ∀ i, i < m → c[i]? = some (.int .u8 0) := fun i hi => by subst hc; simp [madeCells, hi, Nat.mod_one]
  exact ⟨h _ (by omega), h _ (by omega), h _ (by omega), h _ (by omega)⟩
theorem St.congr {w : World} {bS bP bC bM k : Nat} {π n o n' o' : Nat → Nat} {nw od : Nat} (h : St w bS bP bC bM k π n o nw od) (hn : ∀ i, i < k → n i = n' i) (ho : ∀ i, i < k → o i = o' i) : St w bS bP bC bM k π n' o' nw od :=
  ⟨h.fx, ⟨let ⟨c, h1, h2, h3⟩ := h.mm.ex; ⟨c, h1, h2, fun i hi => by rw [← hn i hi, ← ho i hi]; exact h3 i hi⟩, fun i hi => by rw [← hn i hi, ← ho i hi]; exact h.mm.bd i hi⟩, h.cl, h.pm, h.hk, h.d1, h.d2, h.d3, h.d4, h.d5⟩
theorem st_new {w : World} {bS bP bC bM k r : Nat} (hk0 : 0 < k) (hk : k ≤ 300) (hx : Fixed w bS bP bC bM k) (hM : w.heap[bM]? = some (.cells (madeCells #[.int .u8 0] (k * 48)) 5 (0, 0)))
    (hC : w.heap[bC]? = some (.cells #[.int .i64 0, .int .u32 ((0 : Nat) : Int), .int .u32 ((0 : Nat) : Int), .int .i64 0] 65 (0, 0))) (d1 : bS ≠ bM) (d2 : bP ≠ bM) (d3 : bC ≠ bM) (d4 : bS ≠ bC) (d5 : bP ≠ bC) :
    St w bS bP bC bM k (rot k r) (fun _ => 0) (fun _ => 0) 0 0 :=
  ⟨hx, ⟨⟨_, hM, size_madeCells _ _, fun i hi => by have := (rot_perm (r := r) hk0).lt i hi; exact ⟨zero_at4 rfl (by omega), zero_at4 rfl (by omega)⟩⟩, fun _ _ => ⟨by omega, by omega⟩⟩, hC, rot_perm hk0, hk, d1, d2, d3, d4, d5⟩
end Go.Proofs.Ybulknlk
