/- Chunks: the store's fixed part, a link read, a link set. -/
import Derived.Test.YbulknlkSmall
namespace Go.Proofs.Ybulknlk
open Go Go.Eng Go.RowKit
set_option linter.unusedSimpArgs false
set_option linter.unusedVariables false

/-- What of the store nobody turns. -/
structure Fixed (w : World) (bS bP bC bM k : Nat) : Prop where
  pages : w.cell? ⟨bS, 8, none⟩ = some (.slice (some ⟨bP, 0, none⟩) 2 2)
  classes : w.cell? ⟨bS, 12, none⟩ = some (.slice (some ⟨bC, 0, none⟩) 1 1)
  mem : w.cell? ⟨bP, 8, none⟩ = some (.slice (some ⟨bM, 0, none⟩) (k * 48) (k * 48))
  cls : w.cell? ⟨bP, 9, none⟩ = some (.int .i64 0)
  siz : w.cell? ⟨bP, 10, none⟩ = some (.int .i64 48)
theorem Fixed.keep {w w' : World} {bS bP bC bM k : Nat} {S : Nat → Prop} (h : Fixed w bS bP bC bM k) (hf : Fr S w w') (h1 : ¬ S bS) (h2 : ¬ S bP) : Fixed w' bS bP bC bM k :=
  ⟨hf.cell h.pages h1, hf.cell h.classes h1, hf.cell h.mem h2, hf.cell h.cls h2, hf.cell h.siz h2⟩

set_option maxRecDepth 100000 in
theorem number {w : World} {b o off len cap n : Nat} {c : Array Value} (hb : w.heap[b]? = some (.cells c 5 (0, 0))) (hn : n < 4294967296) (h4 : At4 c (o + off) n) (hl : off + 4 ≤ len) (hc : off < cap) :
    Calls Yba.prog 14 #[.slice (some ⟨b, o, none⟩) len cap, .int .i64 (off : Nat)] w fun e w' => ∃ v, e = .returned v ∧ (v = .int .u32 (n : Nat) ∧ Fr (fun _ => False) w w') := by
  have hfr0 : Fr (fun _ => False) w w := Fr.refl w
  refine calls_of Yba.func14 rfl rfl ?_
  refine WP.seq ?_
  have LT900 := lt_of hb
  have FRsz := Fr.size hfr0
  refine WP.region ?_
  refine RL.val rfl (ex_assign (by conv => lhs; whnf)) ?_
  refine RL.nil ?_
  refine WP.seq ?_
  refine WP.draw [] (by kernel_rfl) ?_
  refine AE.take 0 rfl (by kernel_rfl) rfl (fun w' hw => ex_loadA (vs := []) (by conv => lhs; whnf) Yba.ag75 rfl (fun j v h => by simp at h)) (Ext.drew (Ext.refl _) 1) ?_
  refine AE.take 1 rfl (by kernel_rfl) rfl (fun w' hw => ex_move (by conv => lhs; whnf)) (Ext.drew (Ext.refl _) 1) ?_
  refine AE.take 2 rfl (by kernel_rfl) rfl (fun w' hw => ex_move (by conv => lhs; whnf)) (Ext.drew (Ext.refl _) 1) ?_
  refine AE.take 3 rfl (by kernel_rfl) rfl (fun w' hw => ex_slice_l1 (by conv => lhs; whnf) (by conv => lhs; whnf) Yba.sl61 Yba.sz5 (by omega) hc) (Ext.drew (Ext.refl _) 1) ?_
  refine AE.call 4 rfl (by kernel_rfl) rfl (ex_call2 rfl (by conv => lhs; whnf) (by conv => lhs; whnf) Yba.fun17) (uint32 hb hn h4 (by omega)) ?_
  rintro v w2 ⟨rfl, hf2⟩
  refine ⟨fun _ => Ext.trans (Ext.drew (Ext.refl _) 1) (Ext.of_fr hf2), ?_⟩
  refine AE.take 5 rfl (by kernel_rfl) rfl (fun w' hw => ex_assign (by conv => lhs; whnf)) (Ext.trans (Ext.drew (Ext.refl _) 1) (Ext.of_fr hf2)) ?_
  refine AE.nil (by kernel_rfl) ?_
  refine WP.ret ?_
  repeat (first | refine thenQ_ret ?_ | refine blockQ_ret ?_)
  exact bodyQ_tmp rfl ⟨rfl, (Fr.trans (Fr.drew hfr0 1) hf2 (fun _ _ h => h))⟩

set_option maxRecDepth 100000 in
theorem setNumber {w : World} {b o off len cap n : Nat} {c : Array Value} (hb : w.heap[b]? = some (.cells c 5 (0, 0))) (hn : n < 4294967296) (ho : o + off + 4 ≤ c.size) (hl : off + 4 ≤ len) (hc : off < cap) :
    Calls Yba.prog 12 #[.slice (some ⟨b, o, none⟩) len cap, .int .i64 (off : Nat), .int .u32 (n : Nat)] w fun e w' => ∃ v, e = .returned v ∧ (w'.heap[b]? = some (.cells (put4 c (o + off) n) 5 (0, 0)) ∧ Fr (fun k => k = b) w w') := by
  have hfr0 : Fr (fun k => k = b) w w := Fr.refl w
  refine calls_of Yba.func12 rfl rfl ?_
  have LT900 := lt_of hb
  have FRsz := Fr.size hfr0
  refine WP.draw [5] (by kernel_rfl) ?_
  refine AE.take 0 rfl (by kernel_rfl) rfl (fun w' hw => ex_loadA (vs := []) (by conv => lhs; whnf) Yba.ag75 rfl (fun j v h => by simp at h)) (Ext.drew (Ext.refl _) 1) ?_
  refine AE.take 1 rfl (by kernel_rfl) rfl (fun w' hw => ex_move (by conv => lhs; whnf)) (Ext.drew (Ext.refl _) 1) ?_
  refine AE.take 2 rfl (by kernel_rfl) rfl (fun w' hw => ex_move (by conv => lhs; whnf)) (Ext.drew (Ext.refl _) 1) ?_
  refine AE.take 3 rfl (by kernel_rfl) rfl (fun w' hw => ex_slice_l1 (by conv => lhs; whnf) (by conv => lhs; whnf) Yba.sl61 Yba.sz5 (by omega) hc) (Ext.drew (Ext.refl _) 1) ?_
  refine AE.take 4 rfl (by kernel_rfl) rfl (fun w' hw => ex_move (by conv => lhs; whnf)) (Ext.drew (Ext.refl _) 1) ?_
  refine AE.call 5 rfl (by kernel_rfl) rfl (ex_call3 rfl (by conv => lhs; whnf) (by conv => lhs; whnf) (by conv => lhs; whnf) Yba.fun15) (putUint32 hb hn (by omega) (by omega) ⟨_, Array.getElem?_eq_getElem (by omega)⟩) ?_
  rintro v w2 ⟨hb2, hf2⟩
  refine ⟨fun h => absurd h (by decide), ?_⟩
  refine AE.nil (by kernel_rfl) ?_
  exact bodyQ_none rfl ⟨hb2, Fr.trans (Fr.drew hfr0 1) hf2 (fun _ _ h => h)⟩

set_option maxRecDepth 100000 in
theorem link {w : World} {b o off len cap n : Nat} {c : Array Value} (hb : w.heap[b]? = some (.cells c 5 (0, 0))) (hn : n < 4294967296) (h4 : At4 c (o + off) n) (hl : off + 4 ≤ len) (hc : off < cap) :
    Calls Yba.prog 8 #[.slice (some ⟨b, o, none⟩) len cap, .int .i64 (off : Nat)] w fun e w' => ∃ v, e = .returned v ∧ (v = .int .u32 (n : Nat) ∧ Fr (fun _ => False) w w') := by
  have hfr0 : Fr (fun _ => False) w w := Fr.refl w
  refine calls_of Yba.func8 rfl rfl ?_
  refine WP.seq ?_
  have LT900 := lt_of hb
  have FRsz := Fr.size hfr0
  refine WP.region ?_
  refine RL.val rfl (ex_assign (by conv => lhs; whnf)) ?_
  refine RL.nil ?_
  refine WP.seq ?_
  refine WP.region ?_
  refine RL.val rfl (ex_move (by conv => lhs; whnf)) ?_
  refine RL.val rfl (ex_move (by conv => lhs; whnf)) ?_
  refine RL.call rfl (ex_call2 rfl (by conv => lhs; whnf) (by conv => lhs; whnf) Yba.fun14) (number hb hn h4 hl hc) ?_
  rintro v w2 ⟨rfl, hf2⟩
  refine RL.val rfl (ex_assign (by conv => lhs; whnf)) ?_
  refine RL.nil ?_
  refine WP.ret ?_
  repeat (first | refine thenQ_ret ?_ | refine blockQ_ret ?_)
  exact bodyQ_tmp rfl ⟨rfl, hf2⟩

set_option maxRecDepth 100000 in
theorem setLink {w : World} {b o off len cap n : Nat} {c : Array Value} (hb : w.heap[b]? = some (.cells c 5 (0, 0))) (hn : n < 4294967296) (ho : o + off + 4 ≤ c.size) (hl : off + 4 ≤ len) (hc : off < cap) :
    Calls Yba.prog 6 #[.slice (some ⟨b, o, none⟩) len cap, .int .i64 (off : Nat), .int .u32 (n : Nat)] w fun e w' => ∃ v, e = .returned v ∧ (w'.heap[b]? = some (.cells (put4 c (o + off) n) 5 (0, 0)) ∧ Fr (fun k => k = b) w w') := by
  have hfr0 : Fr (fun k => k = b) w w := Fr.refl w
  refine calls_of Yba.func6 rfl rfl ?_
  have LT900 := lt_of hb
  have FRsz := Fr.size hfr0
  refine WP.region ?_
  refine RL.val rfl (ex_move (by conv => lhs; whnf)) ?_
  refine RL.val rfl (ex_move (by conv => lhs; whnf)) ?_
  refine RL.val rfl (ex_move (by conv => lhs; whnf)) ?_
  refine RL.call rfl (ex_call3 rfl (by conv => lhs; whnf) (by conv => lhs; whnf) (by conv => lhs; whnf) Yba.fun12) (setNumber hb hn ho hl hc) ?_
  rintro v w2 ⟨hb2, hf2⟩
  refine RL.nil ?_
  exact bodyQ_none rfl ⟨hb2, hf2⟩

set_option maxRecDepth 100000 in
theorem classOfItem {w : World} {bS bP bC bM k p : Nat} (hx : Fixed w bS bP bC bM k) (hp : p < 2048) :
    Calls Yba.prog 16 #[.pointer (some ⟨bS, 0, none⟩), .int .u32 ((2048 + p : Nat) : Int)] w fun e w' => ∃ v, e = .returned v ∧ (v = .int .i64 0 ∧ Fr (fun _ => False) w w') := by
  have hfr0 : Fr (fun _ => False) w w := Fr.refl w
  refine calls_of Yba.func16 rfl rfl ?_
  refine WP.seq ?_
  have FRsz := Fr.size hfr0
  refine WP.region ?_
  refine RL.val rfl (ex_assign (by conv => lhs; whnf)) ?_
  refine RL.nil ?_
  refine WP.seq ?_
  refine WP.draw [] (by kernel_rfl) ?_
  refine AE.take 0 rfl (by kernel_rfl) rfl (fun w' hw => ex_move (by conv => lhs; whnf)) (Ext.drew (Ext.refl _) 1) ?_
  refine AE.take 1 rfl (by kernel_rfl) rfl (fun w' hw => ex_nilCheck (by conv => lhs; whnf)) (Ext.drew (Ext.refl _) 1) ?_
  refine AE.take 2 rfl (by kernel_rfl) rfl (fun w' hw => ex_fieldAddr (by conv => lhs; whnf) Yba.fo59_5) (Ext.drew (Ext.refl _) 1) ?_
  refine AE.take 3 rfl (by kernel_rfl) rfl (fun w' hw => ex_load (by conv => lhs; whnf) Yba.sc29 (Ext.cell hw hx.pages)) (Ext.drew (Ext.refl _) 1) ?_
  refine AE.take 4 rfl (by kernel_rfl) rfl (fun w' hw => ex_move (by conv => lhs; whnf)) (Ext.drew (Ext.refl _) 1) ?_
  refine AE.call 5 rfl (by kernel_rfl) rfl (ex_call1 rfl (by conv => lhs; whnf) Yba.fun10) (page hp) ?_
  rintro v w2 ⟨rfl, rfl⟩
  refine ⟨fun _ => (Ext.drew (Ext.refl _) 1), ?_⟩
  refine AE.take 6 rfl (by kernel_rfl) rfl (fun w' hw => ex_indexAddr (i := 1) (m := 1) (by conv => lhs; whnf) (by conv => lhs; whnf) Yba.sl29 Yba.sz28 rfl (by omega)) (Ext.drew (Ext.refl _) 1) ?_
  refine AE.take 7 rfl (by kernel_rfl) rfl (fun w' hw => ex_fieldAddr (by conv => lhs; whnf) Yba.fo28_1) (Ext.drew (Ext.refl _) 1) ?_
  refine AE.take 8 rfl (by kernel_rfl) rfl (fun w' hw => ex_load (by conv => lhs; whnf) Yba.sc3 (Ext.cell hw hx.cls)) (Ext.drew (Ext.refl _) 1) ?_
  refine AE.take 9 rfl (by kernel_rfl) rfl (fun w' hw => ex_assign (by conv => lhs; whnf)) (Ext.drew (Ext.refl _) 1) ?_
  refine AE.nil (by kernel_rfl) ?_
  refine WP.ret ?_
  repeat (first | refine thenQ_ret ?_ | refine blockQ_ret ?_)
  exact bodyQ_tmp rfl ⟨rfl, (Fr.drew hfr0 1)⟩

set_option maxRecDepth 100000 in
theorem chunk {w : World} {bS bP bC bM k p : Nat} (hx : Fixed w bS bP bC bM k) (hp : p < k) (hk : k ≤ 2048) :
    Calls Yba.prog 5 #[.pointer (some ⟨bS, 0, none⟩), .int .u32 ((2048 + p : Nat) : Int)] w fun e w' => ∃ v, e = .returned v ∧ (v = .slice (some ⟨bM, 0 + p * 48, none⟩) (p * 48 + 48 - p * 48) (k * 48 - p * 48) ∧ Fr (fun _ => False) w w') := by
  have hfr0 : Fr (fun _ => False) w w := Fr.refl w
  refine calls_of Yba.func5 rfl rfl ?_
  refine WP.seq ?_
  have FRsz := Fr.size hfr0
  refine WP.region ?_
  refine RL.val rfl (ex_assign (by conv => lhs; whnf)) ?_
  refine RL.nil ?_
  refine WP.seq ?_
  refine WP.draw [] (by kernel_rfl) ?_
  refine AE.take 0 rfl (by kernel_rfl) rfl (fun w' hw => ex_move (by conv => lhs; whnf)) (Ext.drew (Ext.refl _) 1) ?_
  refine AE.take 1 rfl (by kernel_rfl) rfl (fun w' hw => ex_nilCheck (by conv => lhs; whnf)) (Ext.drew (Ext.refl _) 1) ?_
  refine AE.take 2 rfl (by kernel_rfl) rfl (fun w' hw => ex_fieldAddr (by conv => lhs; whnf) Yba.fo59_5) (Ext.drew (Ext.refl _) 1) ?_
  refine AE.take 3 rfl (by kernel_rfl) rfl (fun w' hw => ex_load (by conv => lhs; whnf) Yba.sc29 (Ext.cell hw hx.pages)) (Ext.drew (Ext.refl _) 1) ?_
  refine AE.take 4 rfl (by kernel_rfl) rfl (fun w' hw => ex_move (by conv => lhs; whnf)) (Ext.drew (Ext.refl _) 1) ?_
  refine AE.call 5 rfl (by kernel_rfl) rfl (ex_call1 rfl (by conv => lhs; whnf) Yba.fun10) (page (by omega)) ?_
  rintro v w2 ⟨rfl, rfl⟩
  refine ⟨fun _ => (Ext.drew (Ext.refl _) 1), ?_⟩
  refine AE.take 6 rfl (by kernel_rfl) rfl (fun w' hw => ex_indexAddr (i := 1) (m := 1) (by conv => lhs; whnf) (by conv => lhs; whnf) Yba.sl29 Yba.sz28 rfl (by omega)) (Ext.drew (Ext.refl _) 1) ?_
  refine AE.take 7 rfl (by kernel_rfl) rfl (fun w' hw => ex_assign (by conv => lhs; whnf)) (Ext.drew (Ext.refl _) 1) ?_
  refine AE.nil (by kernel_rfl) ?_
  have hx1 := hx.keep (Fr.drew hfr0 1) id id
  refine WP.seq ?_
  refine WP.draw [] (by kernel_rfl) ?_
  refine AE.take 0 rfl (by kernel_rfl) rfl (fun w' hw => ex_move (by conv => lhs; whnf)) (Ext.drew (Ext.refl _) 1) ?_
  refine AE.take 2 rfl (by kernel_rfl) rfl (fun w' hw => ex_move (by conv => lhs; whnf)) (Ext.drew (Ext.refl _) 1) ?_
  refine AE.take 3 rfl (by kernel_rfl) rfl (fun w' hw => ex_nilCheck (by conv => lhs; whnf)) (Ext.drew (Ext.refl _) 1) ?_
  refine AE.take 4 rfl (by kernel_rfl) rfl (fun w' hw => ex_fieldAddr (by conv => lhs; whnf) Yba.fo28_2) (Ext.drew (Ext.refl _) 1) ?_
  refine AE.take 5 rfl (by kernel_rfl) rfl (fun w' hw => ex_load (by conv => lhs; whnf) Yba.sc3 (Ext.cell hw hx1.siz)) (Ext.drew (Ext.refl _) 1) ?_
  refine AE.call 1 rfl (by kernel_rfl) rfl (ex_call1 rfl (by conv => lhs; whnf) Yba.fun11) (place (p := p) (by omega)) ?_
  rintro v w2 ⟨rfl, rfl⟩
  refine ⟨fun _ => (Ext.drew (Ext.refl _) 1), ?_⟩
  refine AE.take 6 rfl (by kernel_rfl) rfl (fun w' hw => ex_mul (c := ((p * 48 : Nat) : Int)) (by conv => lhs; whnf) (by conv => lhs; whnf) (by rw [IntKind.wrap_i64]; omega)) (Ext.drew (Ext.refl _) 1) ?_
  refine AE.take 7 rfl (by kernel_rfl) rfl (fun w' hw => ex_assign (by conv => lhs; whnf)) (Ext.drew (Ext.refl _) 1) ?_
  refine AE.nil (by kernel_rfl) ?_
  have hx2 := hx.keep (Fr.drew (Fr.drew hfr0 1) 1) id id
  refine WP.seq ?_
  refine WP.draw [] (by kernel_rfl) ?_
  refine AE.take 0 rfl (by kernel_rfl) rfl (fun w' hw => ex_move (by conv => lhs; whnf)) (Ext.drew (Ext.refl _) 1) ?_
  refine AE.take 1 rfl (by kernel_rfl) rfl (fun w' hw => ex_nilCheck (by conv => lhs; whnf)) (Ext.drew (Ext.refl _) 1) ?_
  refine AE.take 2 rfl (by kernel_rfl) rfl (fun w' hw => ex_fieldAddr (by conv => lhs; whnf) Yba.fo28_0) (Ext.drew (Ext.refl _) 1) ?_
  refine AE.take 3 rfl (by kernel_rfl) rfl (fun w' hw => ex_load (by conv => lhs; whnf) Yba.sc24 (Ext.cell hw hx2.mem)) (Ext.drew (Ext.refl _) 1) ?_
  refine AE.take 4 rfl (by kernel_rfl) rfl (fun w' hw => ex_move (by conv => lhs; whnf)) (Ext.drew (Ext.refl _) 1) ?_
  refine AE.take 5 rfl (by kernel_rfl) rfl (fun w' hw => ex_move (by conv => lhs; whnf)) (Ext.drew (Ext.refl _) 1) ?_
  refine AE.take 6 rfl (by kernel_rfl) rfl (fun w' hw => ex_move (by conv => lhs; whnf)) (Ext.drew (Ext.refl _) 1) ?_
  refine AE.take 7 rfl (by kernel_rfl) rfl (fun w' hw => ex_nilCheck (by conv => lhs; whnf)) (Ext.drew (Ext.refl _) 1) ?_
  refine AE.take 8 rfl (by kernel_rfl) rfl (fun w' hw => ex_fieldAddr (by conv => lhs; whnf) Yba.fo28_2) (Ext.drew (Ext.refl _) 1) ?_
  refine AE.take 9 rfl (by kernel_rfl) rfl (fun w' hw => ex_load (by conv => lhs; whnf) Yba.sc3 (Ext.cell hw hx2.siz)) (Ext.drew (Ext.refl _) 1) ?_
  refine AE.take 10 rfl (by kernel_rfl) rfl (fun w' hw => ex_add (c := ((p * 48 + 48 : Nat) : Int)) (by conv => lhs; whnf) (by conv => lhs; whnf) (by rw [IntKind.wrap_i64]; omega)) (Ext.drew (Ext.refl _) 1) ?_
  refine AE.take 11 rfl (by kernel_rfl) rfl (fun w' hw => ex_slice_lh1 (by conv => lhs; whnf) (by conv => lhs; whnf) (by conv => lhs; whnf) Yba.sl24 Yba.sz5 (by omega) (by omega) (by omega)) (Ext.drew (Ext.refl _) 1) ?_
  refine AE.take 12 rfl (by kernel_rfl) rfl (fun w' hw => ex_assign (by conv => lhs; whnf)) (Ext.drew (Ext.refl _) 1) ?_
  refine AE.nil (by kernel_rfl) ?_
  refine WP.ret ?_
  repeat (first | refine thenQ_ret ?_ | refine blockQ_ret ?_)
  exact bodyQ_tmp rfl ⟨rfl, (Fr.drew (Fr.drew (Fr.drew hfr0 1) 1) 1)⟩
end Go.Proofs.Ybulknlk
