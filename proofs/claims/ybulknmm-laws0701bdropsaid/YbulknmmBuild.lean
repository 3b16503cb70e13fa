/- The store is built. -/
import Derived.Test.YbulknmmSto
import Derived.OwnWalk
namespace Go.Proofs.Ybulknmm
open Go Go.Eng Go.RowKit
set_option linter.unusedSimpArgs false
set_option linter.unusedVariables false

theorem bodyQ_tmp3 {P : Program} {F : Nat → Value} {w : World} {fn : Func} {R : Value → World → Prop} {t u v : Nat} (hres : fn.results = #[.tmp t, .tmp u, .tmp v]) (h : R (.tuple #[F t, F u, F v]) w) : bodyQ P fn R .ret F w := by
  intro a ha
  refine ⟨_, ?_, h⟩
  rw [results_tmp3 hres, ha.get, ha.get, ha.get]

theorem ex_remN {P : Program} {ρ : Operand → Value} {ty : TypeId} {w : World} {t t' : TypeId} {x y : Operand} {k : IntKind} {a m : Nat} {b : Int} (hx : ρ x = .int k (a : Nat)) (hy : ρ y = .int k b) (hb : b = (m : Nat)) (hm : 0 < m) :
    ex P ρ (.binOp .rem t x y t') ty w = .ok (.value (.int k ((a % m : Nat) : Int))) w := by
  have h := ex_rem (P := P) (w := w) (ty := ty) (t := t) (t' := t') hx hy (by omega)
  rw [h, hb, ← Int.ofNat_tmod]

/-- What came in: strings; bytes. -/
structure KeysAt (w : World) (B : Nat) (ka : Option Addr) (K : List ByteArray) : Prop where
  at_ : ∀ (i : Nat) (k : ByteArray), K[i]? = some k → ∃ bb oo, ka = some ⟨bb, oo, none⟩ ∧ bb < B ∧ w.cell? ⟨bb, oo + i, none⟩ = some (.string k)
structure LensAt (w : World) (B : Nat) (la : Option Addr) (m : Nat) : Prop where
  at_ : ∀ (i : Nat), i < m → ∃ bb oo, ∃ v : Nat, la = some ⟨bb, oo, none⟩ ∧ bb < B ∧ v < 256 ∧ w.cell? ⟨bb, oo + i, none⟩ = some (.int .u8 (v : Nat))
theorem KeysAt.keep {w w' : World} {B : Nat} {ka : Option Addr} {K : List ByteArray} (h : KeysAt w B ka K) (hf : Fr (fun b => B ≤ b) w w') : KeysAt w' B ka K :=
  ⟨fun i k hk => let ⟨bb, oo, h1, h2, h3⟩ := h.at_ i k hk; ⟨bb, oo, h1, h2, hf.cell h3 (by show ¬ B ≤ bb; omega)⟩⟩

structure Bld (w : World) (B : Nat) (wr : World) (bS bT bR : Nat) (K : List ByteArray) (i : Nat) (L : List (ByteArray × Nat)) (bytes : Int) (xb : Option Nat) (p : Nat → Nat) : Prop where
  sto : Sto wr bS bT L bytes xb
  ptr : ∃ c : Array Value, wr.heap[bR]? = some (.cells c 26 (0, 0)) ∧ c.size = K.length ∧ ∀ t, t < i → c[t]? = some (.pointer (some ⟨p t, 0, none⟩))
  fnd : ∀ t k, t < i → K[t]? = some k → lk L k = some (p t)
  zero : i = 0 → L = [] ∧ xb = none
  xin : ∀ x, xb = some x → ∃ k, (k, x) ∈ L
  fr : Fr (fun b => B ≤ b) w wr
  lS : B ≤ bS
  lT : B ≤ bT
  lR : B ≤ bR
  len : L.length ≤ i
def upN (f : Nat → Nat) (i v : Nat) : Nat → Nat := fun j => if j = i then v else f j
theorem upN_eq (f : Nat → Nat) (i v : Nat) : upN f i v i = v := by simp [upN]
theorem upN_ne (f : Nat → Nat) {i j : Nat} (v : Nat) (h : j ≠ i) : upN f i v j = f j := by simp [upN, h]

theorem ptr_set {c : Array Value} {n i b : Nat} {p : Nat → Nat} (hs : c.size = n) (hi : i < n) (h : ∀ t, t < i → c[t]? = some (.pointer (some ⟨p t, 0, none⟩))) :
    ∀ t, t < i + 1 → (c.setIfInBounds i (.pointer (some ⟨b, 0, none⟩)))[t]? = some (.pointer (some ⟨upN p i b t, 0, none⟩)) := by
  intro t ht
  by_cases hti : t = i
  · subst hti; simp [hs, hi, upN_eq]
  · rw [Array.getElem?_setIfInBounds_ne (by omega), upN_ne _ _ hti]; exact h t (by omega)

theorem bld_step {w wr w2 wF : World} {B bS bT bR i be l : Nat} {K : List ByteArray} {L : List (ByteArray × Nat)} {bytes bytes' exp : Int} {xb xb' : Option Nat} {p : Nat → Nat} {k : ByteArray} {c' : Array Value}
    (hb : Bld w B wr bS bT bR K i L bytes xb p) (hk : K[i]? = some k) (hl : lk L k = none) (hbe : wr.heap.size ≤ be) (he2 : Ent w2 k be l exp) (hex : exp ≠ NEVER ↔ xb' = some be) (hxx : xb' = xb ∨ (i = 0 ∧ xb' = some be)) (hf2 : Fr (fun g => g = bS) wr w2)
    (hS : wF.heap[bS]? = some (.cells (storeRow bT bytes' (ptrOf xb')) 46 (0, 0))) (hR : wF.heap[bR]? = some (.cells c' 26 (0, 0))) (hcs : c'.size = K.length) (hct : ∀ t, t < i + 1 → c'[t]? = some (.pointer (some ⟨upN p i be t, 0, none⟩)))
    (hm : MapIs wF bT (L ++ [(k, be)])) (hfF : Fr (fun g => g = bS ∨ g = bT ∨ g = bR) w2 wF) : Bld w B wF bS bT bR K (i + 1) (L ++ [(k, be)]) bytes' xb' (upN p i be) := by
  have hst := hb.sto
  obtain ⟨cR, hcR, _⟩ := hb.ptr
  have hbS : bS < wr.heap.size := lt_of hst.st
  have hbT : bT < wr.heap.size := hst.mp.lt
  have hbR : bR < wr.heap.size := lt_of hcR
  have hsz := hb.fr.size
  have hT : Fr (fun g => g = bS ∨ g = bT ∨ g = bR) wr wF := (hf2.mono (fun _ _ h => .inl h)).trans hfF (fun _ _ h => h)
  refine ⟨⟨hS, hm, ?_, ?_⟩, ⟨c', hR, hcs, hct⟩, ?_, fun h => by omega, ?_, hb.fr.trans hT (fun g _ h => by have := hb.lS; have := hb.lT; have := hb.lR; rcases h with h | h | h <;> omega), hb.lS, hb.lT, hb.lR, by have := hb.len; simp; omega⟩
  · rw [List.map_append, List.nodup_append]
    refine ⟨hst.nd, by simp, ?_⟩
    intro a ha b hb'
    have : b = k := by simpa using hb'
    rintro rfl
    rw [this] at ha
    exact lk_none.1 hl ha
  · intro k' b hmem
    rcases List.mem_append.1 hmem with h | h
    · obtain ⟨cp, ex1, he, hx⟩ := hst.en k' b h
      obtain ⟨cc, hcc⟩ := he.blk
      have n1 : b ≠ bS := ne_of_type hcc hst.st rfl
      have n2 : b ≠ bT := ne_map hcc hst.mp
      have n3 : b ≠ bR := ne_of_type hcc hcR rfl
      refine ⟨cp, ex1, he.keep hT (by rintro (h | h | h) <;> contradiction), ?_⟩
      rcases hxx with rfl | ⟨h0, _⟩
      · exact hx
      · rw [(hb.zero h0).1] at h
        cases h
    · have : (k', b) = (k, be) := by simpa using h
      cases this
      exact ⟨l, exp, he2.keep hfF (by rintro (h | h | h) <;> omega), hex⟩
  · intro t kt ht hkt
    rw [lk_snoc hl]
    by_cases hti : t = i
    · subst hti
      rw [hk] at hkt
      cases hkt
      rw [if_pos rfl, upN_eq]
    · have hf := hb.fnd t kt (by omega) hkt
      have hne : k ≠ kt := fun e => by rw [e, hf] at hl; cases hl
      rw [if_neg hne, upN_ne _ _ hti]
      exact hf
  · intro x hx
    rcases hxx with rfl | ⟨_, h1⟩
    · obtain ⟨k', hk'⟩ := hb.xin x hx
      exact ⟨k', List.mem_append_left _ hk'⟩
    · rw [h1] at hx
      cases hx
      exact ⟨k, List.mem_append_right _ (by simp)⟩

set_option maxRecDepth 100000 in
theorem build {w : World} {B : Nat} {ka la : Option Addr} {kc m lc ea : Nat} {ue : Bool} {K : List ByteArray} (hB : B = w.heap.size) (hK : KeysAt w B ka K) (hL : LensAt w B la m) (hn : K.length ≤ 1024) (hea : ea < 256) :
    Calls Yba.prog 5 #[.slice ka K.length kc, .slice la m lc, .int .u8 (ea : Nat), .bool ue] w fun e w' => ∃ v, e = .returned v ∧
      (∃ bS bT bR L bytes xb p, v = .tuple #[.pointer (some ⟨bS, 0, none⟩), .slice (some ⟨bR, 0, none⟩) K.length K.length, ptrOf xb] ∧ Bld w B w' bS bT bR K K.length L bytes xb p) := by
  have hfr0 : Fr (fun b => B ≤ b) w w := Fr.refl w
  obtain ⟨n, hnn⟩ : ∃ n, n = K.length := ⟨_, rfl⟩
  rw [← hnn] at hn ⊢
  refine calls_of Yba.func5 rfl rfl ?_
  refine WP.seq ?_
  have FRsz := Fr.size hfr0
  refine WP.region ?_
  refine RL.val rfl (ex_assign (by conv => lhs; whnf)) ?_
  refine RL.val rfl (ex_assign (by conv => lhs; whnf)) ?_
  refine RL.val rfl (ex_assign (by conv => lhs; whnf)) ?_
  refine RL.nil ?_
  refine WP.seq ?_
  refine WP.region ?_
  refine RL.val rfl (ex_makeMap (q := w.heap.size) rfl) ?_
  refine RL.val rfl (Yba.bl46_5 (by conv => lhs; whnf) rfl) ?_
  refine RL.val rfl (ex_box (by conv => lhs; whnf) (by first | (conv => lhs; simp only [sz_al, sz_sr, sz_dn]) | rfl)) ?_
  refine RL.val rfl (ex_assign (by conv => lhs; whnf)) ?_
  refine RL.nil ?_
  refine WP.seq ?_
  refine WP.region ?_
  refine RL.val rfl (ex_move (by conv => lhs; whnf)) ?_
  refine RL.val rfl (ex_len (by conv => lhs; whnf) Yba.sl22) ?_
  refine RL.val rfl (ex_makeSlice (by conv => lhs; whnf) (by conv => lhs; whnf) Yba.sl25 Yba.in26 (Nat.le_refl _) (by omega) (by omega) (by first | (conv => lhs; simp only [sz_al, sz_sr, sz_dn]) | rfl)) ?_
  refine RL.val rfl (ex_assign (by conv => lhs; whnf)) ?_
  refine RL.nil ?_
  refine WP.seq ?_
  refine WP.region ?_
  refine RL.val rfl (ex_assign (by conv => lhs; whnf)) ?_
  refine RL.nil ?_
  refine WP.seqc (fun F wr => ∃ bS bT bR L bytes xb p, Has F [(11, .pointer (some ⟨bS, 0, none⟩)), (12, .slice (some ⟨bR, 0, none⟩) n n), (13, ptrOf xb)] ∧ Bld w B wr bS bT bR K n L bytes xb p) ?_ ?_
  rotate_left
  · rintro F wr ⟨bS, bT, bR, L, bytes, xb, p, hF, hb⟩
    obtain ⟨G, rfl⟩ := hF.get
    clear hF
    refine WP.seq ?_
    refine WP.region ?_
    refine RL.val rfl (ex_move (by conv => lhs; whnf)) ?_
    refine RL.val rfl (ex_move (by conv => lhs; whnf)) ?_
    refine RL.val rfl (ex_move (by conv => lhs; whnf)) ?_
    refine RL.val rfl (ex_assign (by conv => lhs; whnf)) ?_
    refine RL.val rfl (ex_assign (by conv => lhs; whnf)) ?_
    refine RL.val rfl (ex_assign (by conv => lhs; whnf)) ?_
    refine RL.nil ?_
    refine WP.ret ?_
    repeat (first | refine thenQ_ret ?_ | refine blockQ_ret ?_)
    exact bodyQ_tmp3 rfl ⟨bS, bT, bR, L, bytes, xb, p, rfl, hb⟩
  refine WP.seq ?_
  refine WP.region ?_
  refine RL.val rfl (ex_move (by conv => lhs; whnf)) ?_
  refine RL.val rfl (ex_len (by conv => lhs; whnf) Yba.sl22) ?_
  refine RL.val rfl (ex_move (by conv => lhs; whnf)) ?_
  refine RL.nil ?_
  refine WP.block ?_
  refine WP.loopk (fun mm F wr => ∃ i bS bT bR L bytes xb p, mm = n - i ∧ i ≤ n ∧ Has F [(1, .slice la m lc), (2, .int .u8 (ea : Nat)), (3, .bool ue), (11, .pointer (some ⟨bS, 0, none⟩)), (12, .slice (some ⟨bR, 0, none⟩) n n), (13, ptrOf xb), (26, .slice ka n kc), (27, .int .i64 (n : Nat)), (28, .int .i64 (i : Nat))] ∧
    Bld w B wr bS bT bR K i L bytes xb p) n
    ⟨0, w.heap.size + 1, w.heap.size, w.heap.size + 2, [], 0, none, fun _ => 0, rfl, Nat.zero_le _, ⟨rfl, rfl, rfl, rfl, rfl, rfl, rfl, rfl, rfl, trivial⟩,
      ⟨⟨(al (an' (by first | (simp only [sz_al, sz_sr, sz_dn]; done) | rfl | omega | (simp only [sz_al, sz_sr, sz_dn]; omega)))), ⟨⟨_, _, (al (al (an' (by first | (simp only [sz_al, sz_sr, sz_dn]; done) | rfl | omega | (simp only [sz_al, sz_sr, sz_dn]; omega))))), rfl⟩⟩, List.nodup_nil, fun k b h => by cases h⟩, ⟨_, (an' (by first | (simp only [sz_al, sz_sr, sz_dn]; done) | rfl | omega | (simp only [sz_al, sz_sr, sz_dn]; omega))), by rw [size_madeCells]; omega, fun t ht => by omega⟩, fun t k ht => by omega, fun _ => ⟨rfl, rfl⟩, (fun x h => by cases h), (Fr.alloc (Fr.alloc (Fr.alloc hfr0 _) _) _), by omega, by omega, by omega, Nat.le_refl _⟩⟩ ?_
  rintro mm F wr ⟨i, bS, bT, bR, L, bytes, xb, p, rfl, hi, hF, hb⟩ K' hK'
  obtain ⟨G, rfl⟩ := hF.get
  clear hF
  obtain ⟨cR, hcR, hcs, hct⟩ := hb.ptr
  have hst := hb.sto
  have hs := hst.st
  have hfr := hb.fr
  have hsz := hfr.size
  have hRS : bR ≠ bS := ne_of_type hcR hs rfl
  have hRT : bR ≠ bT := ne_map hcR hst.mp
  have hST : bS ≠ bT := ne_map hs hst.mp
  have hRE : ∀ k b, (k, b) ∈ L → b ≠ bR := fun k b h => by obtain ⟨_, _, he, _⟩ := hst.en k b h; obtain ⟨c, hc⟩ := he.blk; exact ne_of_type hc hcR rfl
  have hSE : ∀ k b, (k, b) ∈ L → b ≠ bS := fun k b h => by obtain ⟨_, _, he, _⟩ := hst.en k b h; obtain ⟨c, hc⟩ := he.blk; exact ne_of_type hc hs rfl
  have hTE : ∀ k b, (k, b) ∈ L → b ≠ bT := fun k b h => by obtain ⟨_, _, he, _⟩ := hst.en k b h; obtain ⟨c, hc⟩ := he.blk; exact ne_map hc hst.mp
  have hEl : ∀ k b, (k, b) ∈ L → b < wr.heap.size := fun k b h => by obtain ⟨_, _, he, _⟩ := hst.en k b h; obtain ⟨c, hc⟩ := he.blk; exact lt_of hc
  refine WP.seq ?_
  have LT11 := lt_of hs
  have LT12 := lt_of hcR
  have FRsz := Fr.size hfr
  refine WP.region ?_
  refine RL.val rfl (ex_lss (by conv => lhs; whnf) (by conv => lhs; whnf)) ?_
  refine RL.nil ?_
  refine WP.seq ?_
  refine WP.cond _ (by conv => lhs; whnf) (fun hlt1 => ?_) (fun hlt1 => ?_)
  rotate_left
  · have hik : i = n := by have := of_decide_eq_false hlt1; omega
    subst hik
    refine WP.exit ?_
    repeat (first | refine thenQ_exit ?_ | refine blockQ_hit ?_ | refine blockQ_miss rfl ?_)
    exact ⟨bS, bT, bR, L, bytes, xb, p, ⟨rfl, rfl, rfl, trivial⟩, hb⟩
  have hik : i < n := by have := of_decide_eq_true hlt1; omega
  obtain ⟨k, hk⟩ : ∃ k, K[i]? = some k := ⟨_, List.getElem?_eq_getElem (by omega)⟩
  obtain ⟨bb, oo, rfl, hbb, hcell⟩ := hK.at_ i k hk
  refine WP.skip ?_
  refine WP.seq ?_
  refine WP.block ?_
  refine WP.seq ?_
  refine WP.region ?_
  refine RL.val rfl (ex_move (by conv => lhs; whnf)) ?_
  refine RL.val rfl (ex_ixa (by conv => lhs; whnf) (by conv => lhs; whnf) Yba.sl22 Yba.sz9 rfl (by omega)) ?_
  refine RL.val rfl (ex_load (by conv => lhs; whnf) Yba.sc9 (hfr.cell hcell (by show ¬ B ≤ bb; omega))) ?_
  refine RL.val rfl (ex_assign (by conv => lhs; whnf)) ?_
  refine RL.val rfl (ex_assign (by conv => lhs; whnf)) ?_
  refine RL.nil ?_
  refine WP.seq ?_
  refine WP.seq ?_
  refine WP.region ?_
  refine RL.val rfl (ex_move (by conv => lhs; whnf)) ?_
  refine RL.val rfl (ex_nilCheck (by conv => lhs; whnf)) ?_
  refine RL.val rfl (ex_fieldAddr (by conv => lhs; whnf) Yba.fo46_5) ?_
  refine RL.val rfl (ex_loadB (by conv => lhs; whnf) Yba.sc42 hs (by conv => lhs; whnf)) ?_
  refine RL.val rfl (ex_move (by conv => lhs; whnf)) ?_
  refine RL.val rfl (ex_lookupS (by conv => lhs; whnf) (by conv => lhs; whnf) Yba.mp42 Yba.st9 Yba.zo26 hst.mp) ?_
  refine RL.val rfl (ex_move (by conv => lhs; whnf)) ?_
  refine RL.val rfl (ex_extract (by conv => lhs; whnf) rfl) ?_
  refine RL.val rfl (ex_extract (by conv => lhs; whnf) rfl) ?_
  refine RL.val rfl (ex_assign (by conv => lhs; whnf)) ?_
  refine RL.val rfl (ex_assign (by conv => lhs; whnf)) ?_
  refine RL.nil ?_
  refine WP.seq ?_
  refine WP.region ?_
  refine RL.val rfl (ex_move (by conv => lhs; whnf)) ?_
  refine RL.nil ?_
  cases hl : lk L k with
  | some b =>
    refine WP.cond_true rfl ?_
    refine WP.seq ?_
    refine WP.region ?_
    refine RL.val rfl (ex_move (by conv => lhs; whnf)) ?_
    refine RL.val rfl (ex_move (by conv => lhs; whnf)) ?_
    refine RL.val rfl (ex_move (by conv => lhs; whnf)) ?_
    refine RL.val rfl (ex_ix1 (by conv => lhs; whnf) (by conv => lhs; whnf) Yba.sl25 Yba.sz26 rfl (by omega)) ?_
    refine RL.unit (ex_store (by conv => lhs; whnf) (by conv => lhs; whnf) Yba.sc26 rfl hcR (by simp; omega)) ?_
    refine RL.nil ?_
    refine WP.exit ?_
    repeat (first | refine thenQ_exit ?_ | refine blockQ_hit ?_ | refine blockQ_miss rfl ?_)
    refine WP.region ?_
    refine RL.val rfl (ex_add (c := ((i + 1 : Nat) : Int)) (by conv => lhs; whnf) (by conv => lhs; whnf) (by rw [IntKind.wrap_i64]; omega)) ?_
    refine RL.val rfl (ex_move (by conv => lhs; whnf)) ?_
    refine RL.nil ?_
    have hf2 : Fr (fun g => g = bR) wr (wr.setRow bR (cR.setIfInBounds i (.pointer (some ⟨b, 0, none⟩)))) := (Fr.refl wr).set _ _ (fun _ => rfl)
    refine hK' (n - (i + 1)) _ _ (by omega) ⟨i + 1, bS, bT, bR, L, bytes, xb, upN p i b, rfl, by omega, ⟨rfl, rfl, rfl, rfl, rfl, rfl, rfl, rfl, rfl, trivial⟩,
      ⟨hst.keep hf2 (fun e => hRS e.symm) (fun e => hRT e.symm) hRE, ⟨_, sr_eq hcR, by simp [hcs], ptr_set (by omega) hik hct⟩, ?_, fun h => by omega, hb.xin, hfr.trans hf2 (fun g _ h => by have : g = bR := h; have := hb.lR; omega), hb.lS, hb.lT, hb.lR, by have := hb.len; omega⟩⟩
    intro t kt ht hkt
    by_cases hti : t = i
    · subst hti
      rw [hk] at hkt
      cases hkt
      rw [upN_eq]
      exact hl
    · rw [upN_ne _ _ hti]
      exact hb.fnd t kt (by omega) hkt
  | none =>
    refine WP.cond_false rfl ?_
    refine WP.skip ?_
    refine WP.seq ?_
    refine WP.region ?_
    refine RL.val rfl (ex_assign (by conv => lhs; whnf)) ?_
    refine RL.nil ?_
    refine WP.seqc (fun F wr' => wr = wr' ∧ ∃ l : Nat, l < 32 ∧ Has F [(1, .slice la m lc), (2, .int .u8 (ea : Nat)), (3, .bool ue), (11, .pointer (some ⟨bS, 0, none⟩)), (12, .slice (some ⟨bR, 0, none⟩) n n), (13, ptrOf xb), (14, .int .i64 (i : Nat)), (15, .string k), (18, .int .i64 (l : Nat)), (26, .slice (some ⟨bb, oo, none⟩) n kc), (27, .int .i64 (n : Nat)), (28, .int .i64 (i : Nat))]) ?_ ?_
    · refine WP.seq ?_
      refine WP.region ?_
      refine RL.val rfl (ex_move (by conv => lhs; whnf)) ?_
      refine RL.val rfl (ex_move (by conv => lhs; whnf)) ?_
      refine RL.val rfl (ex_len (by conv => lhs; whnf) Yba.sl23) ?_
      refine RL.val rfl (ex_lss (by conv => lhs; whnf) (by conv => lhs; whnf)) ?_
      refine RL.nil ?_
      by_cases him : i < m
      · obtain ⟨lb, lo, lv, rfl, hlb, hlv, hlc⟩ := hL.at_ i him
        refine WP.cond_true (congrArg Value.bool (decide_eq_true (by omega))) ?_
        refine WP.region ?_
        refine RL.val rfl (ex_move (by conv => lhs; whnf)) ?_
        refine RL.val rfl (ex_move (by conv => lhs; whnf)) ?_
        refine RL.val rfl (ex_ixa (by conv => lhs; whnf) (by conv => lhs; whnf) Yba.sl23 Yba.sz5 rfl (by omega)) ?_
        refine RL.val rfl (ex_load (by conv => lhs; whnf) Yba.sc5 (hfr.cell hlc (by show ¬ B ≤ lb; omega))) ?_
        refine RL.val rfl (ex_remN (b := 32) (m := 32) (by conv => lhs; whnf) (by conv => lhs; whnf) rfl (by omega)) ?_
        refine RL.val rfl (ex_convert (by conv => lhs; whnf) Yba.cv5_3 Yba.kd3 (wrap_i64 (by omega) (by omega))) ?_
        refine RL.val rfl (ex_assign (by conv => lhs; whnf)) ?_
        refine RL.nil ?_
        exact ⟨rfl, lv % 32, by omega, rfl, rfl, rfl, rfl, rfl, rfl, rfl, rfl, rfl, rfl, rfl, rfl, trivial⟩
      · refine WP.cond_false (congrArg Value.bool (decide_eq_false (by omega))) ?_
        refine WP.skip ?_
        exact ⟨rfl, 0, by omega, rfl, rfl, rfl, rfl, rfl, rfl, rfl, rfl, rfl, rfl, rfl, rfl, trivial⟩
    rintro F wr' ⟨rfl, l, hl32, hF⟩
    obtain ⟨G, rfl⟩ := hF.get
    clear hF
    obtain ⟨be, hbe⟩ : ∃ b, b = wr.heap.size + 1 := ⟨_, rfl⟩
    have hfw : Fr (fun g => g = bS) wr wr := Fr.refl wr
    refine WP.seq ?_
    have LT11 := lt_of hs
    have LT12 := lt_of hcR
    have FRsz := Fr.size hfw
    refine WP.region ?_
    refine RL.val rfl (ex_move (by conv => lhs; whnf)) ?_
    refine RL.val rfl (ex_move (by conv => lhs; whnf)) ?_
    refine RL.val rfl (ex_move (by conv => lhs; whnf)) ?_
    refine RL.val rfl (ex_makeSlice (q := wr.heap.size) (by conv => lhs; whnf) (by conv => lhs; whnf) Yba.sl23 Yba.in5 (Nat.le_refl _) (by omega) (by omega) rfl) ?_
    refine RL.val rfl (ex_move (by conv => lhs; whnf)) ?_
    refine RL.val rfl (ex_add (c := ((i + 1 : Nat) : Int)) (by conv => lhs; whnf) (by conv => lhs; whnf) (by rw [IntKind.wrap_i64]; omega)) ?_
    refine RL.val rfl (ex_convert (by conv => lhs; whnf) Yba.cv3_30 Yba.kd30 (wrap_u64 (by omega) (by omega))) ?_
    refine RL.val rfl (Yba.bl53_0_1_2_4 (by conv => lhs; whnf) rfl (by conv => lhs; whnf) rfl (by conv => lhs; whnf) rfl (by conv => lhs; whnf) rfl) ?_
    refine RL.val rfl (ex_box (by conv => lhs; whnf) (by first | (conv => lhs; simp only [sz_al, sz_sr, sz_dn]) | rfl)) ?_
    refine RL.val rfl (ex_assign (by conv => lhs; whnf)) ?_
    refine RL.nil ?_
    refine WP.seqc (fun F w2 => ∃ exp xb', Has F [(1, .slice la m lc), (2, .int .u8 (ea : Nat)), (3, .bool ue), (11, .pointer (some ⟨bS, 0, none⟩)), (12, .slice (some ⟨bR, 0, none⟩) n n), (13, ptrOf xb'), (14, .int .i64 (i : Nat)), (15, .string k), (19, .pointer (some ⟨be, 0, none⟩)), (26, .slice (some ⟨bb, oo, none⟩) n kc), (27, .int .i64 (n : Nat)), (28, .int .i64 (i : Nat))] ∧
      w2.heap[bS]? = some (.cells (storeRow bT bytes (ptrOf xb')) 46 (0, 0)) ∧ Ent w2 k be l exp ∧ (exp ≠ NEVER ↔ xb' = some be) ∧ (xb' = xb ∨ (i = 0 ∧ xb' = some be)) ∧ Fr (fun g => g = bS) wr w2) ?_ ?_
    · refine WP.seq ?_
      rw [hbe]
      have hxne : xb ≠ some (wr.heap.size + 1) := fun h => by
        obtain ⟨k2, hk2⟩ := hb.xin _ h
        have := hEl _ _ hk2
        omega
      by_cases hi0 : i = 0
      · have hd : decide ((i : Int) = 0) = true := decide_eq_true (by omega)
        refine WP.region ?_
        refine RL.val rfl (ex_move (by conv => lhs; whnf)) ?_
        refine RL.val rfl (ex_eql (by conv => lhs; whnf) (by conv => lhs; whnf)) ?_
        refine RL.val rfl (ex_move (by conv => lhs; whnf)) ?_
        refine RL.take (dj := 68) rfl (congrArg Value.bool hd) ?_
        refine RL.val rfl (ex_move (by conv => lhs; whnf)) ?_
        refine RL.val rfl (ex_pick_t (congrArg Value.bool hd) (by conv => lhs; whnf)) ?_
        refine RL.nil ?_
        cases ue with
        | false =>
          refine WP.cond_false rfl ?_
          refine WP.skip ?_
          exact ⟨NEVER, xb, ⟨rfl, rfl, rfl, rfl, rfl, rfl, rfl, rfl, rfl, rfl, rfl, rfl, trivial⟩, (al (al hs)), ⟨_, _, _, _, _, (an' (by first | (simp only [sz_al, sz_sr, sz_dn]; done) | rfl | omega | (simp only [sz_al, sz_sr, sz_dn]; omega)))⟩, ⟨fun h => absurd rfl h, fun h => absurd h hxne⟩, .inl rfl, (Fr.alloc (Fr.alloc hfw _) _)⟩
        | true =>
          refine WP.cond_true rfl ?_
          refine WP.seq ?_
          refine WP.region ?_
          refine RL.val rfl (ex_move (by conv => lhs; whnf)) ?_
          refine RL.val rfl (ex_move (by conv => lhs; whnf)) ?_
          refine RL.val rfl (ex_convert (by conv => lhs; whnf) Yba.cv5_2 Yba.kd2 (wrap_i64 (by omega) (by omega))) ?_
          refine RL.val rfl (ex_nilCheck (by conv => lhs; whnf)) ?_
          refine RL.val rfl (ex_fieldAddr (by conv => lhs; whnf) Yba.fo53_4) ?_
          refine RL.unit (ex_store (by conv => lhs; whnf) (by conv => lhs; whnf) Yba.sc2 rfl (an' (by first | (simp only [sz_al, sz_sr, sz_dn]; done) | rfl | omega | (simp only [sz_al, sz_sr, sz_dn]; omega))) rfl) ?_
          refine RL.nil ?_
          refine WP.seq ?_
          refine WP.region ?_
          refine RL.val rfl (ex_move (by conv => lhs; whnf)) ?_
          refine RL.val rfl (ex_nilCheck (by conv => lhs; whnf)) ?_
          refine RL.val rfl (ex_fieldAddr (by conv => lhs; whnf) Yba.fo53_9) ?_
          refine RL.unit (ex_store (by conv => lhs; whnf) (by conv => lhs; whnf) Yba.sc3 rfl (sr_eq (an' (by first | (simp only [sz_al, sz_sr, sz_dn]; done) | rfl | omega | (simp only [sz_al, sz_sr, sz_dn]; omega)))) rfl) ?_
          refine RL.nil ?_
          refine WP.seq ?_
          refine WP.region ?_
          refine RL.val rfl (ex_move (by conv => lhs; whnf)) ?_
          refine RL.val rfl (ex_move (by conv => lhs; whnf)) ?_
          refine RL.call rfl (ex_call1 rfl (by conv => lhs; whnf) Yba.fun6) (size ⟨_, _, _, _, _, (sr_eq (sr_eq (an' (by first | (simp only [sz_al, sz_sr, sz_dn]; done) | rfl | omega | (simp only [sz_al, sz_sr, sz_dn]; omega)))))⟩) ?_
          rintro v w2 ⟨rfl, hf2⟩
          have hsz2 := hf2.size
          simp only [sz_al, sz_sr, sz_dn] at hsz2
          refine RL.val rfl (ex_nilCheck (by conv => lhs; whnf)) ?_
          refine RL.val rfl (ex_fieldAddr (by conv => lhs; whnf) Yba.fo53_10) ?_
          refine RL.unit (ex_store (by conv => lhs; whnf) (by conv => lhs; whnf) Yba.sc2 rfl (hf2.keep (sr_eq (sr_eq (an' (by first | (simp only [sz_al, sz_sr, sz_dn]; done) | rfl | omega | (simp only [sz_al, sz_sr, sz_dn]; omega))))) id) rfl) ?_
          refine RL.nil ?_
          refine WP.seq ?_
          refine WP.region ?_
          refine RL.val rfl (ex_move (by conv => lhs; whnf)) ?_
          refine RL.val rfl (ex_move (by conv => lhs; whnf)) ?_
          refine RL.val rfl (ex_nilCheck (by conv => lhs; whnf)) ?_
          refine RL.val rfl (ex_fieldAddr (by conv => lhs; whnf) Yba.fo46_7) ?_
          refine RL.val rfl (ex_fieldAddr (by conv => lhs; whnf) Yba.fo44_0) ?_
          refine RL.unit (ex_store (by conv => lhs; whnf) (by conv => lhs; whnf) Yba.sc26 rfl (sr_ne (hf2.keep (sr_ne (sr_ne (al (al hs)) (by (try simp only [sz_al, sz_sr, sz_dn]); omega)) (by (try simp only [sz_al, sz_sr, sz_dn]); omega)) id) (by (try simp only [sz_al, sz_sr, sz_dn]); omega)) rfl) ?_
          refine RL.nil ?_
          refine WP.region ?_
          refine RL.val rfl (ex_move (by conv => lhs; whnf)) ?_
          refine RL.val rfl (ex_assign (by conv => lhs; whnf)) ?_
          refine RL.nil ?_
          exact ⟨(ea : Nat), some (wr.heap.size + 1), ⟨rfl, rfl, rfl, rfl, rfl, rfl, rfl, rfl, rfl, rfl, rfl, rfl, trivial⟩, (sr_eq (sr_ne (hf2.keep (sr_ne (sr_ne (al (al hs)) (by (try simp only [sz_al, sz_sr, sz_dn]); omega)) (by (try simp only [sz_al, sz_sr, sz_dn]); omega)) id) (by (try simp only [sz_al, sz_sr, sz_dn]); omega))), ⟨_, _, _, _, _, (sr_ne (sr_eq (hf2.keep (sr_eq (sr_eq (an' (by first | (simp only [sz_al, sz_sr, sz_dn]; done) | rfl | omega | (simp only [sz_al, sz_sr, sz_dn]; omega))))) id)) (by (try simp only [sz_al, sz_sr, sz_dn]); omega))⟩, ⟨fun _ => rfl, fun _ => by show ((ea : Nat) : Int) ≠ 9223372036854775807; omega⟩, .inr ⟨hi0, rfl⟩, (Fr.set (Fr.set (Fr.trans (Fr.set (Fr.set (Fr.alloc (Fr.alloc hfw _) _) _ _ (fun hh => by first | exact rfl | exact .inl rfl | exact .inr (.inl rfl) | exact .inr (.inr rfl) | ((try simp only [sz_al, sz_sr, sz_dn] at hh); (try simp only [sz_al, sz_sr, sz_dn]); (first | omega | (dsimp only; omega) | exact .inl rfl | exact .inr (.inl rfl))))) _ _ (fun hh => by first | exact rfl | exact .inl rfl | exact .inr (.inl rfl) | exact .inr (.inr rfl) | ((try simp only [sz_al, sz_sr, sz_dn] at hh); (try simp only [sz_al, sz_sr, sz_dn]); (first | omega | (dsimp only; omega) | exact .inl rfl | exact .inr (.inl rfl))))) hf2 (fun _ _ h => h.elim)) _ _ (fun hh => by first | exact rfl | exact .inl rfl | exact .inr (.inl rfl) | exact .inr (.inr rfl) | ((try simp only [sz_al, sz_sr, sz_dn] at hh); (try simp only [sz_al, sz_sr, sz_dn]); (first | omega | (dsimp only; omega) | exact .inl rfl | exact .inr (.inl rfl))))) _ _ (fun hh => by first | exact rfl | exact .inl rfl | exact .inr (.inl rfl) | exact .inr (.inr rfl) | ((try simp only [sz_al, sz_sr, sz_dn] at hh); (try simp only [sz_al, sz_sr, sz_dn]); (first | omega | (dsimp only; omega) | exact .inl rfl | exact .inr (.inl rfl)))))⟩
      · have hd : decide ((i : Int) = 0) = false := decide_eq_false (by omega)
        refine WP.region ?_
        refine RL.val rfl (ex_move (by conv => lhs; whnf)) ?_
        refine RL.val rfl (ex_eql (by conv => lhs; whnf) (by conv => lhs; whnf)) ?_
        refine RL.val rfl (ex_move (by conv => lhs; whnf)) ?_
        refine RL.skip (dj := 68) (b := false) rfl rfl (congrArg Value.bool hd) rfl ?_
        refine RL.val rfl (ex_pick_f (congrArg Value.bool hd) (by conv => lhs; whnf)) ?_
        refine RL.nil ?_
        refine WP.cond_false rfl ?_
        refine WP.skip ?_
        exact ⟨NEVER, xb, ⟨rfl, rfl, rfl, rfl, rfl, rfl, rfl, rfl, rfl, rfl, rfl, rfl, trivial⟩, (al (al hs)), ⟨_, _, _, _, _, (an' (by first | (simp only [sz_al, sz_sr, sz_dn]; done) | rfl | omega | (simp only [sz_al, sz_sr, sz_dn]; omega)))⟩, ⟨fun h => absurd rfl h, fun h => absurd h hxne⟩, .inl rfl, (Fr.alloc (Fr.alloc hfw _) _)⟩
    rintro F w2 ⟨exp, xb', hF, hs2, he2, hex, hxx, hf2⟩
    obtain ⟨G, rfl⟩ := hF.get
    clear hF
    have hm2 := hst.mp.keep hf2 (fun e => hST e.symm)
    have hcR2 := hf2.keep hcR hRS
    have hbS : bS < wr.heap.size := lt_of hs
    have hbT : bT < wr.heap.size := hst.mp.lt
    have hbR : bR < wr.heap.size := lt_of hcR
    refine WP.seq ?_
    have LT11 := lt_of hs2
    refine WP.region ?_
    refine RL.val rfl (ex_move (by conv => lhs; whnf)) ?_
    refine RL.val rfl (ex_nilCheck (by conv => lhs; whnf)) ?_
    refine RL.val rfl (ex_fieldAddr (by conv => lhs; whnf) Yba.fo46_5) ?_
    refine RL.val rfl (ex_loadB (by conv => lhs; whnf) Yba.sc42 hs2 (by conv => lhs; whnf)) ?_
    refine RL.val rfl (ex_move (by conv => lhs; whnf)) ?_
    refine RL.val rfl (ex_move (by conv => lhs; whnf)) ?_
    refine RL.mapUpdateS (by conv => lhs; whnf) (by conv => lhs; whnf) (by conv => lhs; whnf) Yba.mp42 Yba.st9 hm2 hl ?_
    intro w3 hm3 hf3
    refine RL.nil ?_
    have hs3 := hf3.keep hs2 hST
    have hcR3 := hf3.keep hcR2 hRT
    have he3 := he2.keep hf3 (by show ¬ be = bT; omega)
    have hf3' : Fr (fun g => g = bS ∨ g = bT ∨ g = bR) w2 w3 := hf3.mono (fun _ _ h => .inr (.inl h))
    refine WP.seq ?_
    have LT11 := lt_of hs3
    have LT12 := lt_of hcR3
    have FRsz := Fr.size hf3'
    refine WP.draw [9] (by kernel_rfl) ?_
    refine AE.take 0 rfl (by kernel_rfl) rfl (fun w' hw => ex_move (by conv => lhs; whnf)) (Ext.drew (Ext.refl _) 1) ?_
    refine AE.take 1 rfl (by kernel_rfl) rfl (fun w' hw => ex_nilCheck (by conv => lhs; whnf)) (Ext.drew (Ext.refl _) 1) ?_
    refine AE.take 2 rfl (by kernel_rfl) rfl (fun w' hw => ex_fieldAddr (by conv => lhs; whnf) Yba.fo46_6) (Ext.drew (Ext.refl _) 1) ?_
    refine AE.take 3 rfl (by kernel_rfl) rfl (fun w' hw => ex_loadB (by conv => lhs; whnf) Yba.sc2 (hw.keep hs3) (by conv => lhs; whnf)) (Ext.drew (Ext.refl _) 1) ?_
    refine AE.take 4 rfl (by kernel_rfl) rfl (fun w' hw => ex_move (by conv => lhs; whnf)) (Ext.drew (Ext.refl _) 1) ?_
    refine AE.call 5 rfl (by kernel_rfl) rfl (ex_call1 rfl (by conv => lhs; whnf) Yba.fun6) (size (he3.keep (Fr.drew (Fr.refl w3) 1) (S := fun _ => False) id)) ?_
    rintro v w4 ⟨rfl, hf4⟩
    refine ⟨fun _ => Ext.trans (Ext.drew (Ext.refl _) 1) (Ext.of_fr hf4), ?_⟩
    refine AE.take 6 rfl (by kernel_rfl) rfl (fun w' hw => ex_add (by conv => lhs; whnf) (by conv => lhs; whnf) rfl) (Ext.trans (Ext.drew (Ext.refl _) 1) (Ext.of_fr hf4)) ?_
    refine AE.take 7 rfl (by kernel_rfl) rfl (fun w' hw => ex_nilCheck (by conv => lhs; whnf)) (Ext.trans (Ext.drew (Ext.refl _) 1) (Ext.of_fr hf4)) ?_
    refine AE.take 8 rfl (by kernel_rfl) rfl (fun w' hw => ex_fieldAddr (by conv => lhs; whnf) Yba.fo46_6) (Ext.trans (Ext.drew (Ext.refl _) 1) (Ext.of_fr hf4)) ?_
    refine AE.unit 9 rfl (by kernel_rfl) (ex_store (by conv => lhs; whnf) (by conv => lhs; whnf) Yba.sc2 rfl (hf4.keep hs3 id) rfl) (fun h => absurd h (by decide)) ?_
    refine AE.nil (by kernel_rfl) ?_
    refine WP.region ?_
    refine RL.val rfl (ex_move (by conv => lhs; whnf)) ?_
    refine RL.val rfl (ex_move (by conv => lhs; whnf)) ?_
    refine RL.val rfl (ex_move (by conv => lhs; whnf)) ?_
    refine RL.val rfl (ex_ix1 (by conv => lhs; whnf) (by conv => lhs; whnf) Yba.sl25 Yba.sz26 rfl (by omega)) ?_
    refine RL.unit (ex_store (by conv => lhs; whnf) (by conv => lhs; whnf) Yba.sc26 rfl (sr_ne (hf4.keep hcR3 id) (by first | exact ne_of_type hcR3 hs3 rfl | omega)) (by simp; omega)) ?_
    refine RL.nil ?_
    refine WP.region ?_
    refine RL.val rfl (ex_add (c := ((i + 1 : Nat) : Int)) (by conv => lhs; whnf) (by conv => lhs; whnf) (by rw [IntKind.wrap_i64]; omega)) ?_
    refine RL.val rfl (ex_move (by conv => lhs; whnf)) ?_
    refine RL.nil ?_
    exact hK' (n - (i + 1)) _ _ (by omega) ⟨i + 1, bS, bT, bR, L ++ [(k, be)], _, xb', upN p i be, rfl, by omega, ⟨rfl, rfl, rfl, rfl, rfl, rfl, rfl, rfl, rfl, trivial⟩,
      bld_step hb hk hl (by omega) he2 hex hxx hf2 (sr_ne (sr_eq (hf4.keep hs3 id)) (by first | exact ne_of_type hs3 hcR3 rfl | omega)) (sr_eq (sr_ne (hf4.keep hcR3 id) (by first | exact ne_of_type hcR3 hs3 rfl | omega))) (by simp [hcs]) (ptr_set (by omega) hik hct) (hm3.ext (fun o ho => sr_ne (sr_ne (hf4.keep ho id) hST.symm) hRT.symm)) (Fr.set (Fr.set (Fr.trans (Fr.drew hf3' 1) hf4 (fun _ _ h => h.elim)) _ _ (fun hh => by first | exact rfl | exact .inl rfl | exact .inr (.inl rfl) | exact .inr (.inr rfl) | ((try simp only [sz_al, sz_sr, sz_dn] at hh); (try simp only [sz_al, sz_sr, sz_dn]); (first | omega | (dsimp only; omega) | exact .inl rfl | exact .inr (.inl rfl))))) _ _ (fun hh => by first | exact rfl | exact .inl rfl | exact .inr (.inl rfl) | exact .inr (.inr rfl) | ((try simp only [sz_al, sz_sr, sz_dn] at hh); (try simp only [sz_al, sz_sr, sz_dn]); (first | omega | (dsimp only; omega) | exact .inl rfl | exact .inr (.inl rfl)))))⟩
end Go.Proofs.Ybulknmm
