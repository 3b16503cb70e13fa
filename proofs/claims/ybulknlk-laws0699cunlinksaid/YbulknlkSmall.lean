/- The small functions by their contracts: handles, and the numbers that lie in bytes. -/
import Derived.Test.YbulknlkTy
namespace Go.Proofs.Ybulknlk
open Go Go.Eng Go.RowKit
set_option linter.unusedSimpArgs false
set_option linter.unusedVariables false

/-! ### Plain -/
def b0 (n : Nat) : Nat := n % 256
def b1 (n : Nat) : Nat := n / 256 % 256
def b2 (n : Nat) : Nat := n / 65536 % 256
def b3 (n : Nat) : Nat := n / 16777216 % 256
theorem b0_lt (n : Nat) : b0 n < 256 := by unfold b0; omega
theorem b1_lt (n : Nat) : b1 n < 256 := by unfold b1; omega
theorem b2_lt (n : Nat) : b2 n < 256 := by unfold b2; omega
theorem b3_lt (n : Nat) : b3 n < 256 := by unfold b3; omega
theorem bytes_sum {n : Nat} (h : n < 4294967296) : b0 n + b1 n * 256 + b2 n * 65536 + b3 n * 16777216 = n := by unfold b0 b1 b2 b3; omega

theorem or_handle {p : Nat} (hp : p < 2048) : IntKind.i64.wrap ((BitVec.ofInt IntKind.i64.bits 2048 ||| BitVec.ofInt IntKind.i64.bits (p : Int)).toNat : Int) = ((2048 + p : Nat) : Int) := by
  have h := or_i64 (a := 2048) (b := p) (by omega) (by omega)
  have h2 : 1 * 2 ^ 11 ||| p = 1 * 2 ^ 11 + p := or_add (n := 11) (by omega)
  simp only [Nat.one_mul] at h2
  have h3 : (2048 ||| p : Nat) = 2048 + p := h2
  rw [h3] at h
  exact h
theorem and_place {p : Nat} (hp : p < 2048) : IntKind.u32.wrap ((BitVec.ofInt IntKind.u32.bits ((2048 + p : Nat) : Int) &&& BitVec.ofInt IntKind.u32.bits 2047).toNat : Int) = ((p : Nat) : Int) := by
  have h := and_u32 (a := 2048 + p) (b := 2047) (by omega) (by omega)
  have h2 : (2048 + p) &&& (2 ^ 11 - 1) = (2048 + p) % 2 ^ 11 := Nat.and_two_pow_sub_one_eq_mod _ _
  have h3 : ((2048 + p) &&& 2047 : Nat) = p := by
    have : ((2048 + p) &&& 2047 : Nat) = (2048 + p) % 2 ^ 11 := h2
    rw [this]; omega
  rw [h3] at h
  exact h
theorem fdiv_nat (a b : Nat) : ((a : Int)).fdiv (b : Int) = ((a / b : Nat) : Int) := by
  rw [Int.fdiv_eq_ediv_of_nonneg _ (by omega)]; rfl
theorem shr_page {p : Nat} (hp : p < 2048) : ((2048 + p : Nat) : Int).fdiv 2048 = 1 := by
  have h := fdiv_nat (2048 + p) 2048
  have h2 : (2048 + p) / 2048 = 1 := by omega
  rw [h2] at h
  exact h
theorem or1 {a b : Nat} (ha : a < 256) (hb : b < 256) : IntKind.u32.wrap ((BitVec.ofInt IntKind.u32.bits (a : Int) ||| BitVec.ofInt IntKind.u32.bits ((b * 256 : Nat) : Int)).toNat : Int) = ((a + b * 256 : Nat) : Int) := by
  have h := or_u32 (a := a) (b := b * 256) (by omega) (by omega)
  have h2 : b * 2 ^ 8 ||| a = b * 2 ^ 8 + a := or_add (n := 8) (by omega)
  have h3 : (a ||| b * 256 : Nat) = a + b * 256 := by rw [Nat.or_comm, Nat.add_comm]; exact h2
  rw [h3] at h
  exact h
theorem or2 {a b : Nat} (ha : a < 65536) (hb : b < 256) : IntKind.u32.wrap ((BitVec.ofInt IntKind.u32.bits (a : Int) ||| BitVec.ofInt IntKind.u32.bits ((b * 65536 : Nat) : Int)).toNat : Int) = ((a + b * 65536 : Nat) : Int) := by
  have h := or_u32 (a := a) (b := b * 65536) (by omega) (by omega)
  have h2 : b * 2 ^ 16 ||| a = b * 2 ^ 16 + a := or_add (n := 16) (by omega)
  have h3 : (a ||| b * 65536 : Nat) = a + b * 65536 := by rw [Nat.or_comm, Nat.add_comm]; exact h2
  rw [h3] at h
  exact h
theorem or3 {a b : Nat} (ha : a < 16777216) (hb : b < 256) : IntKind.u32.wrap ((BitVec.ofInt IntKind.u32.bits (a : Int) ||| BitVec.ofInt IntKind.u32.bits ((b * 16777216 : Nat) : Int)).toNat : Int) = ((a + b * 16777216 : Nat) : Int) := by
  have h := or_u32 (a := a) (b := b * 16777216) (by omega) (by omega)
  have h2 : b * 2 ^ 24 ||| a = b * 2 ^ 24 + a := or_add (n := 24) (by omega)
  have h3 : (a ||| b * 16777216 : Nat) = a + b * 16777216 := by rw [Nat.or_comm, Nat.add_comm]; exact h2
  rw [h3] at h
  exact h
theorem shl_nat {b m : Nat} (h : b * m < 4294967296) : IntKind.u32.wrap ((b : Int) * (m : Int)) = ((b * m : Nat) : Int) := by
  rw [← Int.natCast_mul]; exact wrap_u32 (by omega) (by omega)
theorem cut_u8 (n m : Nat) : IntKind.u8.wrap (((n / m : Nat) : Int)) = ((n / m % 256 : Nat) : Int) := by
  rw [IntKind.wrap_u8]; omega

theorem cut_b0 (n : Nat) : IntKind.u8.wrap ((n : Nat) : Int) = ((b0 n : Nat) : Int) := by
  rw [IntKind.wrap_u8, b0]; omega

/-- The number 'n' lies at 'o' of the row 'c'. -/
structure At4 (c : Array Value) (o n : Nat) : Prop where
  h0 : c[o]? = some (.int .u8 (b0 n : Nat))
  h1 : c[o + 1]? = some (.int .u8 (b1 n : Nat))
  h2 : c[o + 2]? = some (.int .u8 (b2 n : Nat))
  h3 : c[o + 3]? = some (.int .u8 (b3 n : Nat))
def put4 (c : Array Value) (o n : Nat) : Array Value :=
  (((c.setIfInBounds (o + 0) (.int .u8 (b0 n : Nat))).setIfInBounds (o + 1) (.int .u8 (b1 n : Nat))).setIfInBounds (o + 2) (.int .u8 (b2 n : Nat))).setIfInBounds (o + 3) (.int .u8 (b3 n : Nat))
theorem put4_size (c : Array Value) (o n : Nat) : (put4 c o n).size = c.size := by simp [put4]
theorem put4_at {c : Array Value} {o n : Nat} (h : o + 4 ≤ c.size) : At4 (put4 c o n) o n := by
  constructor <;> simp [put4, Array.getElem?_setIfInBounds] <;> omega
theorem put4_other {c : Array Value} {o n j : Nat} (h : j < o ∨ o + 4 ≤ j) : (put4 c o n)[j]? = c[j]? := by
  have h0 : ¬ o = j := by omega
  have h1 : ¬ o + 1 = j := by omega
  have h2 : ¬ o + 2 = j := by omega
  have h3 : ¬ o + 3 = j := by omega
  simp [put4, Array.getElem?_setIfInBounds, h0, h1, h2, h3]
theorem put4_keep {c : Array Value} {o n o' n' : Nat} (h : At4 c o' n') (hd : o' + 4 ≤ o ∨ o + 4 ≤ o') : At4 (put4 c o n) o' n' :=
  ⟨by rw [put4_other (by omega)]; exact h.h0, by rw [put4_other (by omega)]; exact h.h1, by rw [put4_other (by omega)]; exact h.h2, by rw [put4_other (by omega)]; exact h.h3⟩

/-! ### Handles -/
theorem makeHandle {w : World} {p : Nat} (hp : p < 2048) : Calls Yba.prog 9 #[.int .i64 1, .int .i64 (p : Nat)] w fun e w' => ∃ v, e = .returned v ∧ (v = .int .u32 ((2048 + p : Nat) : Int) ∧ w' = w) := by
  refine calls_of Yba.func9 rfl rfl ?_
  refine WP.seq ?_
  refine WP.region ?_
  refine RL.val rfl (ex_assign (by conv => lhs; whnf)) ?_
  refine RL.nil ?_
  refine WP.seq ?_
  refine WP.region ?_
  refine RL.val rfl (ex_move (by conv => lhs; whnf)) ?_
  refine RL.val rfl (ex_shl (c := 2048) (by conv => lhs; whnf) (by conv => lhs; whnf) rfl rfl rfl) ?_
  refine RL.val rfl (ex_move (by conv => lhs; whnf)) ?_
  refine RL.val rfl (ex_or (by conv => lhs; whnf) (by conv => lhs; whnf) (or_handle hp)) ?_
  refine RL.val rfl (ex_convert (by conv => lhs; whnf) Yba.cv3_26 Yba.kd26 (wrap_u32 (by omega) (by omega))) ?_
  refine RL.val rfl (ex_assign (by conv => lhs; whnf)) ?_
  refine RL.nil ?_
  refine WP.ret ?_
  repeat (first | refine thenQ_ret ?_ | refine blockQ_ret ?_)
  exact bodyQ_tmp rfl ⟨rfl, rfl⟩
theorem page {w : World} {p : Nat} (hp : p < 2048) : Calls Yba.prog 10 #[.int .u32 ((2048 + p : Nat) : Int)] w fun e w' => ∃ v, e = .returned v ∧ (v = .int .i64 1 ∧ w' = w) := by
  refine calls_of Yba.func10 rfl rfl ?_
  refine WP.seq ?_
  refine WP.region ?_
  refine RL.val rfl (ex_assign (by conv => lhs; whnf)) ?_
  refine RL.nil ?_
  refine WP.seq ?_
  refine WP.region ?_
  refine RL.val rfl (ex_move (by conv => lhs; whnf)) ?_
  refine RL.val rfl (ex_shr (by conv => lhs; whnf) (by conv => lhs; whnf) rfl rfl (shr_page hp)) ?_
  refine RL.val rfl (ex_convert (by conv => lhs; whnf) Yba.cv26_3 Yba.kd3 (wrap_i64 (by omega) (by omega))) ?_
  refine RL.val rfl (ex_assign (by conv => lhs; whnf)) ?_
  refine RL.nil ?_
  refine WP.ret ?_
  repeat (first | refine thenQ_ret ?_ | refine blockQ_ret ?_)
  exact bodyQ_tmp rfl ⟨rfl, rfl⟩
theorem place {w : World} {p : Nat} (hp : p < 2048) : Calls Yba.prog 11 #[.int .u32 ((2048 + p : Nat) : Int)] w fun e w' => ∃ v, e = .returned v ∧ (v = .int .i64 (p : Nat) ∧ w' = w) := by
  refine calls_of Yba.func11 rfl rfl ?_
  refine WP.seq ?_
  refine WP.region ?_
  refine RL.val rfl (ex_assign (by conv => lhs; whnf)) ?_
  refine RL.nil ?_
  refine WP.seq ?_
  refine WP.region ?_
  refine RL.val rfl (ex_move (by conv => lhs; whnf)) ?_
  refine RL.val rfl (ex_and (by conv => lhs; whnf) (by conv => lhs; whnf) (and_place hp)) ?_
  refine RL.val rfl (ex_convert (by conv => lhs; whnf) Yba.cv26_3 Yba.kd3 (wrap_i64 (by omega) (by omega))) ?_
  refine RL.val rfl (ex_assign (by conv => lhs; whnf)) ?_
  refine RL.nil ?_
  refine WP.ret ?_
  repeat (first | refine thenQ_ret ?_ | refine blockQ_ret ?_)
  exact bodyQ_tmp rfl ⟨rfl, rfl⟩

/-! ### Numbers in bytes -/
set_option maxRecDepth 100000 in
theorem uint32 {w : World} {b o len cap n : Nat} {c : Array Value} (hb : w.heap[b]? = some (.cells c 5 (0, 0))) (hn : n < 4294967296) (h4 : At4 c o n) (hl : 4 ≤ len) :
    Calls Yba.prog 17 #[.agg #[], .slice (some ⟨b, o, none⟩) len cap] w fun e w' => ∃ v, e = .returned v ∧ (v = .int .u32 (n : Nat) ∧ Fr (fun _ => False) w w') := by
  have hfr0 : Fr (fun _ => False) w w := Fr.refl w
  have l0 := b0_lt n
  have l1 := b1_lt n
  have l2 := b2_lt n
  have l3 := b3_lt n
  refine calls_of Yba.func17 rfl rfl ?_
  refine WP.seq ?_
  have LT900 := lt_of hb
  have FRsz := Fr.size hfr0
  refine WP.region ?_
  refine RL.val rfl (ex_box (by conv => lhs; whnf) (by first | (conv => lhs; simp only [sz_al, sz_sr, sz_dn]) | rfl)) ?_
  refine RL.val rfl (ex_assign (by conv => lhs; whnf)) ?_
  refine RL.nil ?_
  refine WP.seq ?_
  refine WP.region ?_
  refine RL.val rfl (ex_move (by conv => lhs; whnf)) ?_
  refine RL.val rfl (ex_ixa (i := 3) (m := 3) (by conv => lhs; whnf) (by conv => lhs; whnf) Yba.sl24 Yba.sz5 rfl (by omega)) ?_
  refine RL.val rfl (ex_load (by conv => lhs; whnf) Yba.sc5 (cellOf (al hb) h4.h3)) ?_
  refine RL.nil ?_
  refine WP.seq ?_
  refine WP.draw [] (by kernel_rfl) ?_
  refine AE.take 0 rfl (by kernel_rfl) rfl (fun w' hw => ex_move (by conv => lhs; whnf)) (Ext.drew (Ext.refl _) 1) ?_
  refine AE.take 1 rfl (by kernel_rfl) rfl (fun w' hw => ex_ixa (i := 0) (m := 0) (by conv => lhs; whnf) (by conv => lhs; whnf) Yba.sl24 Yba.sz5 rfl (by omega)) (Ext.drew (Ext.refl _) 1) ?_
  refine AE.take 2 rfl (by kernel_rfl) rfl (fun w' hw => ex_load (by conv => lhs; whnf) Yba.sc5 (cellOf (i := o + 0) (hw.keep (al hb)) h4.h0)) (Ext.drew (Ext.refl _) 1) ?_
  refine AE.take 3 rfl (by kernel_rfl) rfl (fun w' hw => ex_convert (by conv => lhs; whnf) Yba.cv5_25 Yba.kd25 (wrap_u32 (by omega) (by omega))) (Ext.drew (Ext.refl _) 1) ?_
  refine AE.take 4 rfl (by kernel_rfl) rfl (fun w' hw => ex_move (by conv => lhs; whnf)) (Ext.drew (Ext.refl _) 1) ?_
  refine AE.take 5 rfl (by kernel_rfl) rfl (fun w' hw => ex_ixa (i := 1) (m := 1) (by conv => lhs; whnf) (by conv => lhs; whnf) Yba.sl24 Yba.sz5 rfl (by omega)) (Ext.drew (Ext.refl _) 1) ?_
  refine AE.take 6 rfl (by kernel_rfl) rfl (fun w' hw => ex_load (by conv => lhs; whnf) Yba.sc5 (cellOf (hw.keep (al hb)) h4.h1)) (Ext.drew (Ext.refl _) 1) ?_
  refine AE.take 7 rfl (by kernel_rfl) rfl (fun w' hw => ex_convert (by conv => lhs; whnf) Yba.cv5_25 Yba.kd25 (wrap_u32 (by omega) (by omega))) (Ext.drew (Ext.refl _) 1) ?_
  refine AE.take 8 rfl (by kernel_rfl) rfl (fun w' hw => ex_shl (by conv => lhs; whnf) (by conv => lhs; whnf) rfl rfl (shl_nat (b := b1 n) (m := 256) (by omega))) (Ext.drew (Ext.refl _) 1) ?_
  refine AE.take 9 rfl (by kernel_rfl) rfl (fun w' hw => ex_or (by conv => lhs; whnf) (by conv => lhs; whnf) (or1 l0 l1)) (Ext.drew (Ext.refl _) 1) ?_
  refine AE.take 10 rfl (by kernel_rfl) rfl (fun w' hw => ex_move (by conv => lhs; whnf)) (Ext.drew (Ext.refl _) 1) ?_
  refine AE.take 11 rfl (by kernel_rfl) rfl (fun w' hw => ex_ixa (i := 2) (m := 2) (by conv => lhs; whnf) (by conv => lhs; whnf) Yba.sl24 Yba.sz5 rfl (by omega)) (Ext.drew (Ext.refl _) 1) ?_
  refine AE.take 12 rfl (by kernel_rfl) rfl (fun w' hw => ex_load (by conv => lhs; whnf) Yba.sc5 (cellOf (hw.keep (al hb)) h4.h2)) (Ext.drew (Ext.refl _) 1) ?_
  refine AE.take 13 rfl (by kernel_rfl) rfl (fun w' hw => ex_convert (by conv => lhs; whnf) Yba.cv5_25 Yba.kd25 (wrap_u32 (by omega) (by omega))) (Ext.drew (Ext.refl _) 1) ?_
  refine AE.take 14 rfl (by kernel_rfl) rfl (fun w' hw => ex_shl (by conv => lhs; whnf) (by conv => lhs; whnf) rfl rfl (shl_nat (b := b2 n) (m := 65536) (by omega))) (Ext.drew (Ext.refl _) 1) ?_
  refine AE.take 15 rfl (by kernel_rfl) rfl (fun w' hw => ex_or (by conv => lhs; whnf) (by conv => lhs; whnf) (or2 (by omega) l2)) (Ext.drew (Ext.refl _) 1) ?_
  refine AE.take 16 rfl (by kernel_rfl) rfl (fun w' hw => ex_move (by conv => lhs; whnf)) (Ext.drew (Ext.refl _) 1) ?_
  refine AE.take 17 rfl (by kernel_rfl) rfl (fun w' hw => ex_ixa (i := 3) (m := 3) (by conv => lhs; whnf) (by conv => lhs; whnf) Yba.sl24 Yba.sz5 rfl (by omega)) (Ext.drew (Ext.refl _) 1) ?_
  refine AE.take 18 rfl (by kernel_rfl) rfl (fun w' hw => ex_load (by conv => lhs; whnf) Yba.sc5 (cellOf (hw.keep (al hb)) h4.h3)) (Ext.drew (Ext.refl _) 1) ?_
  refine AE.take 19 rfl (by kernel_rfl) rfl (fun w' hw => ex_convert (by conv => lhs; whnf) Yba.cv5_25 Yba.kd25 (wrap_u32 (by omega) (by omega))) (Ext.drew (Ext.refl _) 1) ?_
  refine AE.take 20 rfl (by kernel_rfl) rfl (fun w' hw => ex_shl (by conv => lhs; whnf) (by conv => lhs; whnf) rfl rfl (shl_nat (b := b3 n) (m := 16777216) (by omega))) (Ext.drew (Ext.refl _) 1) ?_
  refine AE.take 21 rfl (by kernel_rfl) rfl (fun w' hw => ex_or (by conv => lhs; whnf) (by conv => lhs; whnf) (or3 (by omega) l3)) (Ext.drew (Ext.refl _) 1) ?_
  refine AE.take 22 rfl (by kernel_rfl) rfl (fun w' hw => ex_assign (by conv => lhs; whnf)) (Ext.drew (Ext.refl _) 1) ?_
  refine AE.nil (by kernel_rfl) ?_
  refine WP.ret ?_
  repeat (first | refine thenQ_ret ?_ | refine blockQ_ret ?_)
  exact bodyQ_tmp rfl ⟨congrArg (fun x : Nat => Value.int .u32 (x : Int)) (bytes_sum hn), (Fr.drew (Fr.alloc hfr0 _) _)⟩

set_option maxRecDepth 100000 in
theorem putUint32 {w : World} {b o len cap n : Nat} {c : Array Value} (hb : w.heap[b]? = some (.cells c 5 (0, 0))) (hn : n < 4294967296) (ho : o + 4 ≤ c.size) (hl : 4 ≤ len) (hc3 : ∃ v, c[o + 3]? = some v) :
    Calls Yba.prog 15 #[.agg #[], .slice (some ⟨b, o, none⟩) len cap, .int .u32 (n : Nat)] w fun e w' => ∃ v, e = .returned v ∧ (w'.heap[b]? = some (.cells (put4 c o n) 5 (0, 0)) ∧ Fr (fun k => k = b) w w') := by
  have hfr0 : Fr (fun k => k = b) w w := Fr.refl w
  obtain ⟨v3, hv3⟩ := hc3
  refine calls_of Yba.func15 rfl rfl ?_
  refine WP.seq ?_
  have LT900 := lt_of hb
  have FRsz := Fr.size hfr0
  refine WP.region ?_
  refine RL.val rfl (ex_box (by conv => lhs; whnf) (by first | (conv => lhs; simp only [sz_al, sz_sr, sz_dn]) | rfl)) ?_
  refine RL.nil ?_
  refine WP.seq ?_
  refine WP.region ?_
  refine RL.val rfl (ex_move (by conv => lhs; whnf)) ?_
  refine RL.val rfl (ex_ixa (i := 3) (m := 3) (by conv => lhs; whnf) (by conv => lhs; whnf) Yba.sl24 Yba.sz5 rfl (by omega)) ?_
  refine RL.val rfl (ex_load (by conv => lhs; whnf) Yba.sc5 (cellOf (al hb) hv3)) ?_
  refine RL.nil ?_
  refine WP.seq ?_
  refine WP.region ?_
  refine RL.val rfl (ex_move (by conv => lhs; whnf)) ?_
  refine RL.val rfl (ex_move (by conv => lhs; whnf)) ?_
  refine RL.val rfl (ex_convert (by conv => lhs; whnf) Yba.cv25_5 Yba.kd5 (cut_b0 n)) ?_
  refine RL.val rfl (ex_ixa (i := 0) (m := 0) (by conv => lhs; whnf) (by conv => lhs; whnf) Yba.sl24 Yba.sz5 rfl (by omega)) ?_
  refine RL.unit (ex_store (by conv => lhs; whnf) (by conv => lhs; whnf) Yba.sc5 rfl (al hb) (by simp; omega)) ?_
  refine RL.nil ?_
  refine WP.seq ?_
  refine WP.region ?_
  refine RL.val rfl (ex_move (by conv => lhs; whnf)) ?_
  refine RL.val rfl (ex_move (by conv => lhs; whnf)) ?_
  refine RL.val rfl (ex_shr (by conv => lhs; whnf) (by conv => lhs; whnf) rfl rfl (fdiv_nat n 256)) ?_
  refine RL.val rfl (ex_convert (by conv => lhs; whnf) Yba.cv25_5 Yba.kd5 (cut_u8 n 256)) ?_
  refine RL.val rfl (ex_ixa (i := 1) (m := 1) (by conv => lhs; whnf) (by conv => lhs; whnf) Yba.sl24 Yba.sz5 rfl (by omega)) ?_
  refine RL.unit (ex_store (by conv => lhs; whnf) (by conv => lhs; whnf) Yba.sc5 rfl (sr_eq (al hb)) (by simp; omega)) ?_
  refine RL.nil ?_
  refine WP.seq ?_
  refine WP.region ?_
  refine RL.val rfl (ex_move (by conv => lhs; whnf)) ?_
  refine RL.val rfl (ex_move (by conv => lhs; whnf)) ?_
  refine RL.val rfl (ex_shr (by conv => lhs; whnf) (by conv => lhs; whnf) rfl rfl (fdiv_nat n 65536)) ?_
  refine RL.val rfl (ex_convert (by conv => lhs; whnf) Yba.cv25_5 Yba.kd5 (cut_u8 n 65536)) ?_
  refine RL.val rfl (ex_ixa (i := 2) (m := 2) (by conv => lhs; whnf) (by conv => lhs; whnf) Yba.sl24 Yba.sz5 rfl (by omega)) ?_
  refine RL.unit (ex_store (by conv => lhs; whnf) (by conv => lhs; whnf) Yba.sc5 rfl (sr_eq (sr_eq (al hb))) (by simp; omega)) ?_
  refine RL.nil ?_
  refine WP.region ?_
  refine RL.val rfl (ex_move (by conv => lhs; whnf)) ?_
  refine RL.val rfl (ex_move (by conv => lhs; whnf)) ?_
  refine RL.val rfl (ex_shr (by conv => lhs; whnf) (by conv => lhs; whnf) rfl rfl (fdiv_nat n 16777216)) ?_
  refine RL.val rfl (ex_convert (by conv => lhs; whnf) Yba.cv25_5 Yba.kd5 (cut_u8 n 16777216)) ?_
  refine RL.val rfl (ex_ixa (i := 3) (m := 3) (by conv => lhs; whnf) (by conv => lhs; whnf) Yba.sl24 Yba.sz5 rfl (by omega)) ?_
  refine RL.unit (ex_store (by conv => lhs; whnf) (by conv => lhs; whnf) Yba.sc5 rfl (sr_eq (sr_eq (sr_eq (al hb)))) (by simp; omega)) ?_
  refine RL.nil ?_
  exact bodyQ_none rfl ⟨(sr_eq (sr_eq (sr_eq (sr_eq (al hb))))), (Fr.set (Fr.set (Fr.set (Fr.set (Fr.alloc hfr0 _) _ _ (fun hh => by first | exact rfl | ((try simp only [sz_al, sz_sr, sz_dn] at hh); (try simp only [sz_al, sz_sr, sz_dn]); (first | omega | (dsimp only; omega) | exact .inl rfl | exact .inr (.inl rfl))))) _ _ (fun hh => by first | exact rfl | ((try simp only [sz_al, sz_sr, sz_dn] at hh); (try simp only [sz_al, sz_sr, sz_dn]); (first | omega | (dsimp only; omega) | exact .inl rfl | exact .inr (.inl rfl))))) _ _ (fun hh => by first | exact rfl | ((try simp only [sz_al, sz_sr, sz_dn] at hh); (try simp only [sz_al, sz_sr, sz_dn]); (first | omega | (dsimp only; omega) | exact .inl rfl | exact .inr (.inl rfl))))) _ _ (fun hh => by first | exact rfl | ((try simp only [sz_al, sz_sr, sz_dn] at hh); (try simp only [sz_al, sz_sr, sz_dn]); (first | omega | (dsimp only; omega) | exact .inl rfl | exact .inr (.inl rfl)))))⟩
end Go.Proofs.Ybulknlk
