/- The data of h248.Transaction.Answer's law: requests, replies, as lists. -/
import Derived.Test.YbulknkwTy
namespace Go.Proofs.Ybulknkw
open Go Go.Eng Go.RowKit

/-- A reply's command: its termination, its error. -/
def cmdCells (p : ByteArray × Option Addr) : List Value := [.string ⟨#[]⟩, .string ⟨#[]⟩, .bool true, .bool false, .string p.1, .slice none 0 0, .pointer p.2, .int .i64 0, .int .i64 0, .string ⟨#[]⟩]
theorem cmdCells_len (p : ByteArray × Option Addr) : (cmdCells p).length = 10 := rfl
/-- A request's command. -/
def reqCells (t : ByteArray) : List Value := [.string ⟨#[]⟩, .string ⟨#[]⟩, .bool false, .bool false, .string t, .slice none 0 0, .pointer none, .int .i64 0, .int .i64 0, .string ⟨#[]⟩]
theorem reqCells_len (t : ByteArray) : (reqCells t).length = 10 := rfl
/-- A reply's action: its context, its commands (the slice, what it holds). -/
abbrev Ra := ByteArray × Value × List (ByteArray × Option Addr)
def actCells (p : Ra) : List Value := [.string p.1, .slice none 0 0, p.2.1, .pointer none]
theorem actCells_len (p : Ra) : (actCells p).length = 4 := rfl
theorem actCells_one (p : Ra) (h : p.2.1.oneCell' = true) : (actCells p).toArray.toList.all Value.oneCell' = true := by
  show (true && (true && (p.2.1.oneCell' && (true && true)))) = true
  rw [h]
  rfl
structure ReplyAt (w : World) (B : Nat) (av : Value) (R : List Ra) : Prop where
  own : w.ownsRow B 43 4 av R.length (R.flatMap actCells)
  cmds : ∀ p, p ∈ R → w.ownsRow B 47 10 p.2.1 p.2.2.length (p.2.2.flatMap cmdCells)
def errs (R : List Ra) : Bool := R.any fun p => p.2.2.any fun c => c.2.isSome
theorem ReplyAt.keep {w w' : World} {B : Nat} {av : Value} {R : List Ra} (h : ReplyAt w B av R) (hf : Fr (fun _ => False) w w') : ReplyAt w' B av R :=
  ⟨hf.own h.own (fun _ _ => id), fun p hp => hf.own (h.cmds p hp) (fun _ _ => id)⟩

/-- The strings that have been seen. -/
def strCells (s : ByteArray) : List Value := [.string s]
theorem strCells_len (s : ByteArray) : (strCells s).length = 1 := rfl
theorem own_str {w : World} {B : Nat} {v : Value} {l : List ByteArray} {n : Nat} (h : w.ownsRow B 9 1 v n (l.flatMap strCells)) {m : Nat} {t : ByteArray} (ht : l[m]? = some t) : ∃ g cap, v = .slice (some ⟨g, 0, none⟩) n cap ∧ w.cell? ⟨g, m, none⟩ = some (.string t) := by
  have hl : l.length = n := by
    have := h.1
    rw [flatMap_len strCells 1 strCells_len] at this
    omega
  have hm : m < l.length := (List.getElem?_eq_some_iff.1 ht).1
  obtain ⟨_, g, cap, cur, hv, _, hg, _, hrow⟩ := own_open strCells_len h (by omega) (by omega)
  refine ⟨g, cap, hv, cellOf hg ?_⟩
  have := hrow m t ht
  rw [Nat.mul_one] at this
  have h2 : (cur.toList.drop m)[0]? = some (.string t) := by
    have h3 : ((cur.toList.drop m).take 1)[0]? = some (.string t) := by rw [this]; rfl
    rw [List.getElem?_take] at h3
    simpa using h3
  rw [List.getElem?_drop] at h2
  simpa using h2
/-- The slice of bools that came in. -/
structure FailsAt (w : World) (B : Nat) (fa : Option Addr) (fails : List Bool) : Prop where
  at_ : ∀ (j : Nat) (b : Bool), fails[j]? = some b → ∃ bb oo, fa = some ⟨bb, oo, none⟩ ∧ bb < B ∧ w.cell? ⟨bb, oo + j, none⟩ = some (.bool b)
/-- A block of strings. -/
def T9 (w : World) (b : Nat) : Prop := ∃ c fz, w.heap[b]? = some (.cells c 9 fz)
/-- What the closure may turn: its two variables, the strings that were seen. -/
def SD (B bk bs : Nat) (w : World) (b : Nat) : Prop := b = bk ∨ b = bs ∨ (B ≤ b ∧ T9 w b)
theorem Fr.transSD {B bk bs : Nat} {w w1 w2 : World} (h : Fr (SD B bk bs w) w w1) (h' : Fr (SD B bk bs w1) w1 w2) : Fr (SD B bk bs w) w w2 := by
  refine h.trans h' ?_
  rintro k hk (rfl | rfl | ⟨hB, c, fz, hc⟩)
  · exact .inl rfl
  · exact .inr (.inl rfl)
  · by_cases hS : SD B bk bs w k
    · exact hS
    · exact .inr (.inr ⟨hB, c, fz, by rw [← h.block k hk hS]; exact hc⟩)
theorem Fr.pureSD {B bk bs : Nat} {w w1 : World} (h : Fr (fun _ => False) w w1) : Fr (SD B bk bs w) w w1 := h.mono (fun _ _ => False.elim)
structure DoSt (w : World) (B bk bf bs : Nat) (fa : Option Addr) (fc : Nat) (fails : List Bool) (k : Nat) (sn : List ByteArray) : Prop where
  hk : w.heap[bk]? = some (.cells #[.int .i64 (k : Nat)] 3 (0, 0))
  hf : w.heap[bf]? = some (.cells #[.slice fa fails.length fc] 24 (0, 0))
  hs : ∃ sv, w.heap[bs]? = some (.cells #[sv] 25 (0, 0)) ∧ w.ownsRow B 9 1 sv sn.length (sn.flatMap strCells)
  fl : FailsAt w B fa fails
  lk : B ≤ bk
  ls : B ≤ bs
theorem FailsAt.keep {w w' : World} {B bk bs : Nat} {fa : Option Addr} {fails : List Bool} (h : FailsAt w B fa fails) (hk : B ≤ bk) (hs : B ≤ bs) (hf : Fr (SD B bk bs w) w w') : FailsAt w' B fa fails :=
  ⟨fun j b hb => by
    obtain ⟨bb, oo, h1, h2, h3⟩ := h.at_ j b hb
    refine ⟨bb, oo, h1, h2, hf.cell h3 ?_⟩
    rintro (h | h | ⟨h, _⟩)
    · have : bb = bk := h
      omega
    · have : bb = bs := h
      omega
    · have : B ≤ bb := h
      omega⟩
/-- The failing calls. -/
def fail (fails : List Bool) (k : Nat) : Bool := fails[k]?.getD false

/-! ### The closure's state, behind steps of others -/
section
variable {w w' : World} {B bk bf bs : Nat} {fa : Option Addr} {fc : Nat} {fails : List Bool} {k : Nat} {sn : List ByteArray}
theorem FailsAt.below (h : FailsAt w B fa fails) (hb : ∀ b, b < B → w'.heap[b]? = w.heap[b]?) : FailsAt w' B fa fails :=
  ⟨fun j b hj => by
    obtain ⟨bb, oo, h1, h2, h3⟩ := h.at_ j b hj
    exact ⟨bb, oo, h1, h2, (World.cell?_of_block (w := w) (hb bb h2)).trans h3⟩⟩
theorem DoSt.alloc (h : DoSt w B bk bf bs fa fc fails k sn) (hB : B ≤ w.heap.size) (x : Obj) : DoSt (w.alloc x) B bk bf bs fa fc fails k sn :=
  ⟨al h.hk, al h.hf, (let ⟨sv, h1, h2⟩ := h.hs; ⟨sv, al h1, h2.alloc x⟩), h.fl.below (fun b hb => Below.heap_alloc w x b (by omega)), h.lk, h.ls⟩
def other (T : Nat) : Bool := !(Nat.beq T 3) && !(Nat.beq T 24) && !(Nat.beq T 25) && !(Nat.beq T 9)
theorem other_spec {T : Nat} (h : other T = true) : Nat.beq 3 T = false ∧ Nat.beq 24 T = false ∧ Nat.beq 25 T = false ∧ Nat.beq 9 T = false ∧ Nat.beq T 9 = false := by
  simp only [other, Bool.and_eq_true, Bool.not_eq_true'] at h
  obtain ⟨⟨⟨h1, h2⟩, h3⟩, h4⟩ := h
  have sw : ∀ a, Nat.beq T a = false → Nat.beq a T = false := fun a ha => by
    cases hh : Nat.beq a T with
    | false => rfl
    | true => rw [Nat.eq_of_beq_eq_true hh, Nat.beq_refl] at ha; cases ha
  exact ⟨sw _ h1, sw _ h2, sw _ h3, sw _ h4, h4⟩
theorem DoSt.set {g : Nat} {c cs : Array Value} {T : TypeId} {fz : Nat × Nat} (h : DoSt w B bk bf bs fa fc fails k sn) (hg : w.heap[g]? = some (.cells c T fz)) (hT : other T = true) (hB : B ≤ g) : DoSt (w.setRow g cs) B bk bf bs fa fc fails k sn := by
  obtain ⟨t3, t24, t25, t9, t9'⟩ := other_spec hT
  exact ⟨sr_ne h.hk (ne_of_type h.hk hg t3), sr_ne h.hf (ne_of_type h.hf hg t24), (let ⟨sv, h1, h2⟩ := h.hs; ⟨sv, sr_ne h1 (ne_of_type h1 hg t25), own_sr h2 (own_ne h2 hg t9')⟩),
    h.fl.below (fun b hb => setRow_other w g b cs (by omega)), h.lk, h.ls⟩
theorem DoSt.grow {base e size n : Nat} {v : Value} {xs : List Value} (h : DoSt w B bk bf bs fa fc fails k sn) (hg : w.grownBy w' v.ownBlock) (ho : w.ownsRow base e size v n xs) (hT : other e = true) (hB : B ≤ base) (hBs : B ≤ w.heap.size) : DoSt w' B bk bf bs fa fc fails k sn := by
  obtain ⟨t3, t24, t25, t9, t9'⟩ := other_spec hT
  exact ⟨gk hg (own_ne ho h.hk t3) h.hk, gk hg (own_ne ho h.hf t24) h.hf, (let ⟨sv, h1, h2⟩ := h.hs; ⟨sv, gk hg (own_ne ho h1 t25) h1, own_gk h2 hg ho t9⟩),
    h.fl.below (fun b hb => hg.block b (by omega) (own_ne_lt ho (by omega))), h.lk, h.ls⟩
/-- What is no string's block, and neither of the closure's variables, is not turned by it. -/
theorem notSD {g : Nat} {c : Array Value} {T : TypeId} {fz : Nat × Nat} (h : DoSt w B bk bf bs fa fc fails k sn) (hg : w.heap[g]? = some (.cells c T fz)) (hT : other T = true) : ¬ SD B bk bs w g := by
  obtain ⟨t3, t24, t25, t9, t9'⟩ := other_spec hT
  obtain ⟨sv, h1, h2⟩ := h.hs
  rintro (rfl | rfl | ⟨_, c', fz', h9⟩)
  · exact ne_of_type h.hk hg t3 rfl
  · exact ne_of_type h1 hg t25 rfl
  · rw [hg] at h9; cases h9; cases t9'
theorem own_SD {base e size n : Nat} {v : Value} {xs : List Value} (h : DoSt w B bk bf bs fa fc fails k sn) (hf : Fr (SD B bk bs w) w w') (ho : w.ownsRow base e size v n xs) (hT : other e = true) : w'.ownsRow base e size v n xs := by
  refine hf.own ho (fun g hg => ?_)
  rcases ho.2 with ⟨rfl, _⟩ | ⟨g', cap, cur, rfl, _, hgg, _⟩
  · cases hg
  · cases hg
    exact notSD h hgg hT
/-- What the closure leaves alone. -/
structure KeepsO (w w' : World) : Prop where
  blk : ∀ {g : Nat} {c : Array Value} {T : TypeId} {fz : Nat × Nat}, other T = true → w.heap[g]? = some (.cells c T fz) → w'.heap[g]? = some (.cells c T fz)
  own : ∀ {base e size n : Nat} {v : Value} {xs : List Value}, other e = true → w.ownsRow base e size v n xs → w'.ownsRow base e size v n xs
theorem keepsO (h : DoSt w B bk bf bs fa fc fails k sn) (hf : Fr (SD B bk bs w) w w') : KeepsO w w' :=
  ⟨fun hT hg => hf.keep hg (notSD h hg hT), fun hT ho => own_SD h hf ho hT⟩
theorem ReplyAt.sd {av : Value} {R : List Ra} {B' : Nat} (hr : ReplyAt w B' av R) (h : DoSt w B bk bf bs fa fc fails k sn) (hf : Fr (SD B bk bs w) w w') : ReplyAt w' B' av R :=
  ⟨own_SD h hf hr.own rfl, fun p hp => own_SD h hf (hr.cmds p hp) rfl⟩
end

/-! ### Requests -/
structure Rq where
  ctx : ByteArray
  props : Value
  cv : Value
  err : Value
  terms : List ByteArray
def rqCells (p : Rq) : List Value := [.string p.ctx, p.props, p.cv, p.err]
theorem rqCells_len (p : Rq) : (rqCells p).length = 4 := rfl
theorem rqCells_one (p : Rq) (h1 : p.props.oneCell' = true) (h2 : p.cv.oneCell' = true) (h3 : p.err.oneCell' = true) : (rqCells p).toArray.toList.all Value.oneCell' = true := by
  show (true && (p.props.oneCell' && (p.cv.oneCell' && (p.err.oneCell' && true)))) = true
  rw [h1, h2, h3]
  rfl
structure ReqAt (w : World) (B : Nat) (av : Value) (L : List Rq) : Prop where
  own : w.ownsRow B 43 4 av L.length (L.flatMap rqCells)
  cmds : ∀ p, p ∈ L → w.ownsRow B 47 10 p.cv p.terms.length (p.terms.flatMap reqCells)
  one : ∀ p, p ∈ L → p.props.oneCell' = true ∧ p.err.oneCell' = true
theorem ReqAt.sd {w w' : World} {B bk bf bs : Nat} {fa : Option Addr} {fc : Nat} {fails : List Bool} {k : Nat} {sn : List ByteArray} {av : Value} {L : List Rq} {B' : Nat} (hr : ReqAt w B' av L) (h : DoSt w B bk bf bs fa fc fails k sn) (hf : Fr (SD B bk bs w) w w') : ReqAt w' B' av L :=
  ⟨own_SD h hf hr.own rfl, fun p hp => own_SD h hf (hr.cmds p hp) rfl, hr.one⟩
/-- How many calls lie before action i. -/
def off (L : List Rq) : Nat → Nat
  | 0 => 0
  | i + 1 => off L i + ((L[i]?).map (·.terms.length)).getD 0
/-- What has been seen before action i. -/
def seenT (L : List Rq) : Nat → List ByteArray
  | 0 => []
  | i + 1 => seenT L i ++ ((L[i]?).map (·.terms)).getD []
theorem off_succ {L : List Rq} {i : Nat} {p : Rq} (h : L[i]? = some p) : off L (i + 1) = off L i + p.terms.length := by simp [off, h]
theorem seenT_succ {L : List Rq} {i : Nat} {p : Rq} (h : L[i]? = some p) : seenT L (i + 1) = seenT L i ++ p.terms := by simp [seenT, h]
theorem seenT_length (L : List Rq) : ∀ i, (seenT L i).length = off L i
  | 0 => rfl
  | i + 1 => by
    have ih := seenT_length L i
    simp only [seenT, off, List.length_append, ih]
    cases L[i]? <;> simp
theorem off_mono (L : List Rq) {i j : Nat} (h : i ≤ j) : off L i ≤ off L j := by
  induction h with
  | refl => exact Nat.le_refl _
  | step _ ih => exact Nat.le_trans ih (by simp only [off]; omega)
/-- An action that has been answered in full. -/
def doneRow (p : Rq) (r : Ra) : Prop := r.1 = p.ctx ∧ r.2.2 = p.terms.map fun t => (t, none)
end Go.Proofs.Ybulknkw
