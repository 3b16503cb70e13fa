/- More operations: shifts, bits, slices cut and made, literals of several elements, two operations that may come up in either order. -/
import Derived.Test.YbulknocFmtDraw
import Derived.Laws.MakeOwn
namespace Go.Eng
open Go Go.RowKit
set_option linter.unusedVariables false
set_option linter.unusedSimpArgs false

section
variable {P : Program} {ρ : Operand → Value} {ty : TypeId} {w : World}

theorem ex_shl {t t' : TypeId} {x y : Operand} {k k' : IntKind} {a b m c : Int} (hx : ρ x = .int k a) (hy : ρ y = .int k' b) (h0 : decide (b < 0) = false) (hm : (2 : Int) ^ (min b.toNat k.bits) = m) (hc : k.wrap (a * m) = c) :
    ex P ρ (.binOp .shl t x y t') ty w = .ok (.value (.int k c)) w := by
  have h0' : ¬ b < 0 := by simpa using h0
  subst hm hc
  unfold ex execOp
  simp only [hx, hy]
  simp [binOp, Op.shift, h0', run_eqGuard_int]
theorem ex_shr {t t' : TypeId} {x y : Operand} {k k' : IntKind} {a b m c : Int} (hx : ρ x = .int k a) (hy : ρ y = .int k' b) (h0 : decide (b < 0) = false) (hm : (2 : Int) ^ (min b.toNat k.bits) = m) (hc : a.fdiv m = c) :
    ex P ρ (.binOp .shr t x y t') ty w = .ok (.value (.int k c)) w := by
  have h0' : ¬ b < 0 := by simpa using h0
  subst hm hc
  unfold ex execOp
  simp only [hx, hy]
  simp [binOp, Op.shift, h0', run_eqGuard_int]
theorem ex_or {t t' : TypeId} {x y : Operand} {k : IntKind} {a b c : Int} (hx : ρ x = .int k a) (hy : ρ y = .int k b) (hc : k.wrap ((BitVec.ofInt k.bits a ||| BitVec.ofInt k.bits b).toNat : Int) = c) :
    ex P ρ (.binOp .or t x y t') ty w = .ok (.value (.int k c)) w := by
  subst hc
  unfold ex execOp
  simp only [hx, hy]
  simp [binOp, Op.intBits, run_eqGuard_int]
theorem ex_and {t t' : TypeId} {x y : Operand} {k : IntKind} {a b c : Int} (hx : ρ x = .int k a) (hy : ρ y = .int k b) (hc : k.wrap ((BitVec.ofInt k.bits a &&& BitVec.ofInt k.bits b).toNat : Int) = c) :
    ex P ρ (.binOp .and t x y t') ty w = .ok (.value (.int k c)) w := by
  subst hc
  unfold ex execOp
  simp only [hx, hy]
  simp [binOp, Op.intBits, run_eqGuard_int]

theorem ex_makeSlice {t e : TypeId} {z : Value} {size bytes : Nat} {x y : Operand} {k k' : IntKind} {l c q : Nat} (hx : ρ x = .int k (l : Int)) (hy : ρ y = .int k' (c : Int)) (ht : P.underlying t = some (.slice e))
    (hin : (P.info? e).map (fun i => (i.zero, i.size, i.bytes)) = some (some z, size, bytes)) (hlc : l ≤ c) (hb : bytes * c ≤ 281474976710656) (h63 : c ≤ 9223372036854775807) (hq : w.heap.size = q) :
    ex P ρ (.makeSlice t x y) ty w = .ok (.value (.slice (some ⟨q, 0, none⟩) l c)) (w.alloc (.cells (madeCells z.cells (c * size)) e)) := by
  subst hq
  obtain ⟨i0, hi0, hz, hsize, hbyt⟩ := info_parts hin
  subst hsize hbyt
  have hb' : (i0.bytes : Int) * (c : Int) ≤ 281474976710656 := by
    have h : ((i0.bytes * c : Nat) : Int) ≤ 281474976710656 := by omega
    rwa [Int.natCast_mul] at h
  have hr := run_make (P := P) w t e i0 z ht hi0 hz k k' l c (by omega) (by omega) hb' (by omega)
  simp only [Int.toNat_natCast] at hr
  unfold ex execOp
  simp [hx, hy, hr]

theorem ex_slice_lh {t e n : TypeId} {x lo hi : Operand} {k k' : IntKind} {b o len cap l h : Nat} (hx : ρ x = .slice (some ⟨b, o, none⟩) len cap) (hl : ρ lo = .int k (l : Int)) (hh : ρ hi = .int k' (h : Int)) (ht : P.underlying t = some (.slice e))
    (hs : (P.info? e).map (·.size) = some n) (h1 : l ≤ h) (h2 : h ≤ cap) (h3 : l < cap) : ex P ρ (.slice t x (some lo) (some hi) none) ty w = .ok (.value (.slice (some ⟨b, o + l * n, none⟩) (h - l) (cap - l))) w := by
  have hne : ¬ cap = l := by omega
  have a1 : (0 : Int) ≤ (h : Int) := by omega
  have a2 : (h : Int) ≤ (cap : Int) := by omega
  have a3 : (0 : Int) ≤ (l : Int) := by omega
  have a4 : (l : Int) ≤ (h : Int) := by omega
  have hb1 : ∀ (y : Nat) (m : Nat) (k : IntKind) (c : BoundsCode), m ≤ y → (Instr.sliceBound (.int k (m : Int)) y c).run P w = .ok m w := fun y m k c h => by
    have := run_sliceBound (P := P) w k (m : Int) y c (by omega) (by omega)
    simpa using this
  unfold ex execOp
  simp [hx, hl, hh, Instr.sliceAt, run_underlying ht, Instr.slice, Instr.sliceBounds, hb1 cap h _ _ h2, hb1 h l _ _ h1, run_sizeOf hs, hne, add_lit]
theorem ex_slice_l {t e n : TypeId} {x lo : Operand} {k : IntKind} {b o len cap l : Nat} (hx : ρ x = .slice (some ⟨b, o, none⟩) len cap) (hl : ρ lo = .int k (l : Int)) (ht : P.underlying t = some (.slice e))
    (hs : (P.info? e).map (·.size) = some n) (h1 : l ≤ len) (h3 : l < cap) : ex P ρ (.slice t x (some lo) none none) ty w = .ok (.value (.slice (some ⟨b, o + l * n, none⟩) (len - l) (cap - l))) w := by
  have hne : ¬ cap = l := by omega
  have hb1 : ∀ (y : Nat) (m : Nat) (k : IntKind) (c : BoundsCode), m ≤ y → (Instr.sliceBound (.int k (m : Int)) y c).run P w = .ok m w := fun y m k c h => by
    have := run_sliceBound (P := P) w k (m : Int) y c (by omega) (by omega)
    simpa using this
  unfold ex execOp
  simp [hx, hl, Instr.sliceAt, run_underlying ht, Instr.slice, Instr.sliceBounds, hb1 len l _ _ h1, run_sizeOf hs, hne, add_lit]

/-- Elements of one cell. -/
theorem ex_slice_lh1 {t e : TypeId} {x lo hi : Operand} {k k' : IntKind} {b o len cap l h : Nat} (hx : ρ x = .slice (some ⟨b, o, none⟩) len cap) (hl : ρ lo = .int k (l : Int)) (hh : ρ hi = .int k' (h : Int)) (ht : P.underlying t = some (.slice e))
    (hs : (P.info? e).map (·.size) = some 1) (h1 : l ≤ h) (h2 : h ≤ cap) (h3 : l < cap) : ex P ρ (.slice t x (some lo) (some hi) none) ty w = .ok (.value (.slice (some ⟨b, o + l, none⟩) (h - l) (cap - l))) w := by
  have := ex_slice_lh (w := w) (ty := ty) hx hl hh ht hs h1 h2 h3
  rwa [Nat.mul_one] at this
theorem ex_slice_l1 {t e : TypeId} {x lo : Operand} {k : IntKind} {b o len cap l : Nat} (hx : ρ x = .slice (some ⟨b, o, none⟩) len cap) (hl : ρ lo = .int k (l : Int)) (ht : P.underlying t = some (.slice e))
    (hs : (P.info? e).map (·.size) = some 1) (h1 : l ≤ len) (h3 : l < cap) : ex P ρ (.slice t x (some lo) none none) ty w = .ok (.value (.slice (some ⟨b, o + l, none⟩) (len - l) (cap - l))) w := by
  have := ex_slice_l (w := w) (ty := ty) hx hl ht hs h1 h3
  rwa [Nat.mul_one] at this

theorem ex_buildSlice {t e n len : Nat} {z : Value} {parts : Array (Nat × Operand)} {cells : Array Value} {q : Nat} (ht : P.underlying t = some (.slice e)) (hn : (P.info? e).map (·.size) = some n) (hz : zeroOf P e = some z)
    (hpos : Nat.blt 0 (len * n) = true) (hle : Nat.ble (len * n) 16777216 = true)
    (hfill : Instr.fill (fun i => some (i * n, n)) ((Array.range (len * n)).map (fun j => z.cells[j % z.cells.size]!)) (parts.toList.map fun p => (p.1, ρ p.2)) = some cells) (hq : w.heap.size = q) :
    ex P ρ (.buildSlice t len parts) ty w = .ok (.value (.slice (some ⟨q, 0, none⟩) len len)) (w.alloc (.cells cells e)) := by
  have h1 : 0 < len * n := by simpa using hpos
  have h2 : len * n ≤ 16777216 := by simpa using hle
  have h3 : ¬ 16777216 < len * n := by omega
  have h4 : ¬ (len * n = 0) := by omega
  have h5 : ¬ (len = 0 ∨ n = 0) := by rw [← Nat.mul_eq_zero]; exact h4
  subst hq
  unfold ex execOp
  simp [Instr.buildSlice, run_underlying ht, run_sizeOf hn, run_zeroValue hz, h3, h4, h5, hfill, newRow]
end

/-! ### Two operations that may come up in either order -/
section
variable {P : Program} {N : Nat} {Q : Post} {F : Nat → Value} {w : World} {l : List Oper} {S : World → Prop} {E : List Nat} {fuel : Nat} {listed : Array Bool} {op : Op} {ty : TypeId} {pos : String} {after : Array Edge}

structure AS (P : Program) (N : Nat) (ops : Array Oper) (S : World → Prop) (E : List Nat) (Q : Post) (fuel : Nat) (listed : Array Bool) (i : Nat) (F : Nat → Value) (w : World) : Prop where
  out : dc ops listed → ∀ ds a, Rep N ds a F → wpOp P ops (lift' N ds Q) i (fun a' w' => (E.contains i = false → S w') ∧ wpAnyE P ops (lift' N ds Q) S E fuel (listed.setIfInBounds i true) a' w') a w

theorem AE.fork (i j : Nat) (hr : Region.ready .any l.toArray listed = [i, j]) (h1 : AS P N l.toArray S E Q fuel listed i F w) (h2 : AS P N l.toArray S E Q fuel listed j F w) : AE P N l.toArray S E Q (fuel + 1) listed F w := by
  refine ⟨fun hdc ds a ha => ⟨fun h0 => (by rw [hr] at h0; cases h0), ?_⟩⟩
  rw [hr]
  intro q hq
  rcases List.mem_cons.1 hq with rfl | hq
  · exact h1.out hdc ds a ha
  · rw [List.mem_singleton] at hq
    subst hq
    exact h2.out hdc ds a ha

theorem AS.val {i : Nat} {d : Nat} {v : Value} {w' : World} (hi : l[i]? = some ⟨some d, op, ty, pos, after, none⟩) (hm : (Region.ready .any l.toArray listed).contains i = true) (hd : Nat.blt d N = true) (hx : ex P (ev F) op ty w = .ok (.value v) w') (hS : E.contains i = false → S w')
    (h : AE P N l.toArray S E Q fuel (listed.setIfInBounds i true) (upd F d v) w') : AS P N l.toArray S E Q fuel listed i F w := by
  refine ⟨fun hdc ds a ha => ?_⟩
  have hi' : l.toArray[i]? = some ⟨some d, op, ty, pos, after, none⟩ := by simpa using hi
  obtain ⟨_, o, ho, hall⟩ := mem_ready.1 (show i ∈ Region.ready .any l.toArray listed by simpa using hm)
  rw [hi'] at ho
  cases ho
  refine wpOp_step hi' fun K' hK => ?_
  rw [if_pos (by simp [Region.wanted])]
  have hr' : (execOp a.eval ⟨some d, op, ty, pos, after, none⟩).run P w = .ok (.value v) w' := by rw [ha.eval]; exact hx
  unfold Oper.wp
  rw [hr']
  exact hK _ _ ⟨hS, h.out (dc_set hdc hi' hall) _ _ (ha.put (by simpa using hd) v)⟩
end

/-! ### Bits as sums -/
theorem ofInt_nat (n a : Nat) : (BitVec.ofInt n (a : Int)).toNat = a % 2 ^ n := by rw [BitVec.ofInt_natCast, BitVec.toNat_ofNat]
theorem or_u32 {a b : Nat} (ha : a < 4294967296) (hb : b < 4294967296) : IntKind.u32.wrap ((BitVec.ofInt IntKind.u32.bits (a : Int) ||| BitVec.ofInt IntKind.u32.bits (b : Int)).toNat : Int) = ((a ||| b : Nat) : Int) := by
  have e : IntKind.u32.bits = 32 := rfl
  rw [e, BitVec.toNat_or, ofInt_nat, ofInt_nat, Nat.mod_eq_of_lt (by omega), Nat.mod_eq_of_lt (by omega)]
  have : a ||| b < 2 ^ 32 := Nat.or_lt_two_pow (by omega) (by omega)
  exact wrap_u32 (by omega) (by omega)
theorem or_i64 {a b : Nat} (ha : a < 4294967296) (hb : b < 4294967296) : IntKind.i64.wrap ((BitVec.ofInt IntKind.i64.bits (a : Int) ||| BitVec.ofInt IntKind.i64.bits (b : Int)).toNat : Int) = ((a ||| b : Nat) : Int) := by
  have e : IntKind.i64.bits = 64 := rfl
  rw [e, BitVec.toNat_or, ofInt_nat, ofInt_nat, Nat.mod_eq_of_lt (by omega), Nat.mod_eq_of_lt (by omega)]
  have : a ||| b < 2 ^ 32 := Nat.or_lt_two_pow (by omega) (by omega)
  exact wrap_i64 (by omega) (by omega)
theorem and_u32 {a b : Nat} (ha : a < 4294967296) (hb : b < 4294967296) : IntKind.u32.wrap ((BitVec.ofInt IntKind.u32.bits (a : Int) &&& BitVec.ofInt IntKind.u32.bits (b : Int)).toNat : Int) = ((a &&& b : Nat) : Int) := by
  have e : IntKind.u32.bits = 32 := rfl
  rw [e, BitVec.toNat_and, ofInt_nat, ofInt_nat, Nat.mod_eq_of_lt (by omega), Nat.mod_eq_of_lt (by omega)]
  have : a &&& b < 2 ^ 32 := Nat.and_lt_two_pow _ (by omega)
  exact wrap_u32 (by omega) (by omega)
theorem or_add {a b n : Nat} (h : b < 2 ^ n) : (a * 2 ^ n ||| b) = a * 2 ^ n + b := by
  rw [Nat.mul_comm]; exact (Nat.two_pow_add_eq_or_of_lt h a).symm
end Go.Eng
