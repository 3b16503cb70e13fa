/- The row: the arguments opened, the walk, the arguments shut again. The frame is the guide's own (the shell of a slice and an integer). -/
import Derived.Test.YbulknkwHead
import Derived.WalkKit
import Derived.ProofKit
import Derived.OpenShut
import Derived.ShutString
import Derived.ChangeOld
import Derived.Below
import Derived.Deep.Slices
import Derived.Deep.SlicePairs
namespace Go.Proofs.Ybulknkw
open Go.ChangeShapes Go.WideShapes Go.ChangeAt Go.RowKit
set_option linter.unusedVariables false
set_option linter.unusedSimpArgs false

theorem own : ownKnob Yba.prog.godebug = none := by kernel_rfl
theorem laidOut : laidOutB Yba.prog = true := by kernel_rfl

theorem spot_none {w : World} {a : Addr} {v : Value} (h : w.cell? a = some v) : a.spot = none := by
  unfold World.cell? at h
  split at h
  · split at h
    · cases h
    · rename_i hs
      simpa using hs
  · cases h

theorem add_plain (b o i : Nat) : (⟨b, o, none⟩ : Addr).add i = ⟨b, o + i, none⟩ := by
  unfold Addr.add
  split
  · subst_vars; rfl
  · rfl
theorem spot_zero {w : World} {a : Addr} {v : Value} (h : w.cell? (a.add 0) = some v) : a.spot = none := spot_none (a := a) (by simpa [Addr.add] using h)

section
variable {H : Type} {enc : TypeId × Value → H} {w : World} {base : Nat} {spare : Nat → Bool} {held : Bool}

theorem range_get {α : Type} {n : Nat} {f : Nat → α} {i : Nat} {a : α} (h : ((List.range n).map f)[i]? = some a) : i < n ∧ f i = a := by
  have hi : i < n := by have := (List.getElem?_eq_some_iff.1 h).1; simpa using this
  refine ⟨hi, ?_⟩
  rw [List.getElem?_map, List.getElem?_range hi] at h
  simpa using h

theorem open_terms {fuel : Nat} {v : Value} {x : DataW H × List MemPlace} (h : DataW.trod enc Yba.prog w base spare held fuel 25 [v] = some x) :
    ∃ (a : Option Addr) (c : Nat) (ts : List ByteArray), v = .slice a ts.length c ∧ ∀ (j : Nat) (t : ByteArray), ts[j]? = some t → ∃ tb to, a = some ⟨tb, to, none⟩ ∧ tb < w.heap.size ∧ w.cell? ⟨tb, to + j, none⟩ = some (.string t) := by
  rcases Go.Deep.open_slice1 Yba.underlying25 (by kernel_rfl) h with ⟨hcs, _⟩ | ⟨a, len, cap, m, n, V, D, Pl, hcs, _, hl, _, hm, _, hx⟩
  · refine ⟨none, 0, [], by simpa using hcs, fun j t ht => by simp at ht⟩
  · have hlm : len ≤ m := by rw [hm]; split <;> omega
    refine ⟨some a, cap, (List.range len).map (fun i => match V i with | .string s => s | _ => ⟨#[]⟩), by simpa using hcs, ?_⟩
    intro j t ht
    obtain ⟨hj, ht⟩ := range_get ht
    obtain ⟨hc, hd⟩ := hx j (by omega)
    obtain ⟨s, hs, _⟩ := DataW.trod_string Yba.underlying9 hd
    have hv : V j = .string s := by simpa using hs
    rw [hv] at ht hc
    have hsp := spot_zero (hx 0 (by omega)).1
    obtain ⟨b, o, sp⟩ := a
    simp only at hsp
    subst hsp
    rw [add_plain] at hc
    exact ⟨b, o, rfl, World.block_lt_of_cell? w _ hc, by rw [hc, ← ht]⟩

theorem open_acts {a : Option Addr} {len cap : Nat} {d : DataW H} {p : List MemPlace} (h : DataW.Trod enc Yba.prog w base spare held 23 (.slice a len cap) d p) :
    ∃ A : List Aa, A.length = len ∧ ActsAt w w.heap.size a A := by
  obtain ⟨fuel, hf⟩ := h
  rcases Go.Deep.open_slice_pairs Yba.underlying23 Yba.underlying27 (by kernel_rfl) rfl rfl (by kernel_rfl) (by kernel_rfl) hf with ⟨hcs, _⟩ | ⟨x, l, c, m, n, V0, V1, D0, D1, P0, P1, hcs, _, hl, _, hm, _, hx⟩
  · simp [Value.cells] at hcs
    obtain ⟨rfl, rfl, rfl⟩ := hcs
    exact ⟨[], rfl, ⟨fun i a ha => by simp at ha, fun i a ha => by simp at ha⟩⟩
  · simp [Value.cells] at hcs
    obtain ⟨rfl, rfl, rfl⟩ := hcs
    have hlm : len ≤ m := by rw [hm]; split <;> omega
    have each : ∀ i, i < len → ∃ q : Aa, x.spot = none ∧ w.cell? (x.add (i * 2)) = some (.string q.ctx) ∧ w.cell? (x.add (i * 2 + 1)) = some (.slice q.ta q.terms.length q.tc) ∧
        ∀ (j : Nat) (t : ByteArray), q.terms[j]? = some t → ∃ tb to, q.ta = some ⟨tb, to, none⟩ ∧ tb < w.heap.size ∧ w.cell? ⟨tb, to + j, none⟩ = some (.string t) := by
      intro i hi
      obtain ⟨h0, h1, g0, g1⟩ := hx i (by omega)
      obtain ⟨s, hs, _⟩ := DataW.trod_string Yba.underlying9 g0
      have hv : V0 i = .string s := by simpa using hs
      obtain ⟨ta, tc, ts, hv1, hts⟩ := open_terms g1
      rw [hv] at h0
      rw [hv1] at h1
      exact ⟨⟨s, ta, tc, ts⟩, spot_zero (hx 0 (by omega)).1, h0, h1, hts⟩
    haveI : Inhabited Aa := ⟨⟨⟨#[]⟩, none, 0, []⟩⟩
    obtain ⟨q, hq⟩ := Go.Deep.choose_lt each
    refine ⟨(List.range len).map q, by simp, ⟨?_, ?_⟩⟩
    · intro i a ha
      obtain ⟨hi, rfl⟩ := range_get ha
      obtain ⟨hsp, h0, h1, _⟩ := hq i hi
      obtain ⟨b, o, sp⟩ := x
      simp only at hsp
      subst hsp
      rw [add_plain] at h0 h1
      exact ⟨b, o, rfl, World.block_lt_of_cell? w _ h0, h0, h1⟩
    · intro i a ha j t ht
      obtain ⟨hi, rfl⟩ := range_get ha
      exact (hq i hi).2.2.2 j t ht

theorem open_fails {a : Option Addr} {len cap : Nat} {d : DataW H} {p : List MemPlace} (h : DataW.Trod enc Yba.prog w base spare held 24 (.slice a len cap) d p) :
    ∃ fails : List Bool, fails.length = len ∧ FailsAt w w.heap.size a fails := by
  obtain ⟨fuel, hf⟩ := h
  rcases Go.Deep.open_slice1 Yba.underlying24 (by kernel_rfl) hf with ⟨hcs, _⟩ | ⟨x, l, c, m, n, V, D, Pl, hcs, _, hl, _, hm, _, hx⟩
  · simp [Value.cells] at hcs
    obtain ⟨rfl, rfl, rfl⟩ := hcs
    exact ⟨[], rfl, ⟨fun i a ha => by simp at ha⟩⟩
  · simp [Value.cells] at hcs
    obtain ⟨rfl, rfl, rfl⟩ := hcs
    have hlm : len ≤ m := by rw [hm]; split <;> omega
    refine ⟨(List.range len).map (fun i => match V i with | .bool b => b | _ => false), by simp, ⟨?_⟩⟩
    intro j t ht
    obtain ⟨hj, ht⟩ := range_get ht
    obtain ⟨hc, hd⟩ := hx j (by omega)
    obtain ⟨s, hs, _⟩ := DataW.trod_bool Yba.underlying4 hd
    have hv : V j = .bool s := by simpa using hs
    rw [hv] at ht hc
    have hsp := spot_zero (hx 0 (by omega)).1
    obtain ⟨b, o, sp⟩ := x
    simp only at hsp
    subst hsp
    rw [add_plain] at hc
    exact ⟨b, o, rfl, World.block_lt_of_cell? w _ hc, by rw [hc, ← ht]⟩
end

set_option maxRecDepth 100000 in
theorem lifted (os : Os) (started : os.Started) (H : Type) (enc : TypeId × Value → H) :
    ReturnsInHanded {} Yba.checked os 3 .any (Rows.lawS0698AAnswerSpec.pre6 enc Yba.prog Yba.f3 Rows.lawS0698AAnswerRow.domain false) (Rows.lawS0698AAnswerSpec.post enc Yba.prog Yba.f3 false true false false) := by
  refine returnsInHanded_of_change (C := Yba.checked) own started (by kernel_rfl) Yba.func3
    (ChangeSpec.witness6 (enc := enc) (C := Yba.checked) false ⟨#[], #[.int .u32 0, .int .u8 0, .bool false, .slice none 0 0, .slice none 0 0], []⟩ 8 (by kernel_rfl) (by kernel_rfl) (by kernel_rfl) (by kernel_rfl)) ?_
  intro W base args ds gs before hval0 hW hcnd _
  have hval : ∀ (j : Nat) t v, Yba.f3.params[j]? = some t → args[j]? = some v → Value.okWide Yba.prog W .any base t v := hval0
  have hW' := hW
  obtain ⟨p, q, hA0, hV, rfl, hfz, hnd⟩ := hW
  have hA : DataW.TrodAll enc Yba.prog W 0 (fun _ => true) true Yba.f3.params.toList args.toList ds p := hA0
  rw [Yba.params3] at hA hval
  obtain ⟨v0, vs0, d0, ds0, p0, q0, hargs, rfl, rfl, h0, r0⟩ := trodAll_cons hA
  obtain ⟨v1, vs1, d1, ds1, p1, q1, rfl, rfl, rfl, h1, r1⟩ := trodAll_cons r0
  obtain ⟨v2, vs2, d2, ds2, p2, q2, rfl, rfl, rfl, h2, r2⟩ := trodAll_cons r1
  obtain ⟨v3, vs3, d3, ds3, p3, q3, rfl, rfl, rfl, h3, r3⟩ := trodAll_cons r2
  obtain ⟨v4, vs4, d4, ds4, p4, q4, rfl, rfl, rfl, h4, r4⟩ := trodAll_cons r3
  obtain ⟨rfl, rfl, rfl⟩ := trodAll_nil r4
  obtain rfl : args = #[v0, v1, v2, v3, v4] := by cases args; simp_all
  obtain ⟨rfl, rfl⟩ := trodVars_none hV
  obtain ⟨a0, rfl, rfl, rfl, w0⟩ := open_int Yba.underlying22 (hval 0 22 v0 rfl rfl) h0
  obtain ⟨a1, rfl, rfl, rfl, w1⟩ := open_int Yba.underlying5 (hval 1 5 v1 rfl rfl) h1
  obtain ⟨a2, rfl, rfl, rfl⟩ := open_bool Yba.underlying4 (hval 2 4 v2 rfl rfl) h2
  obtain ⟨a3, len3, cap3, rfl⟩ := okWide_slice Yba.underlying23 (hval 3 23 v3 rfl rfl)
  obtain ⟨a4, len4, cap4, rfl⟩ := okWide_slice Yba.underlying24 (hval 4 24 v4 rfl rfl)
  have lt3 : ∀ x ∈ p3, x.block < W.heap.size := by obtain ⟨m, hm⟩ := h3; exact DataW.trod_lt m _ _ _ hm
  have lt4 : ∀ x ∈ p4, x.block < W.heap.size := by obtain ⟨m, hm⟩ := h4; exact DataW.trod_lt m _ _ _ hm
  obtain ⟨A, rfl, hA3⟩ := open_acts h3
  obtain ⟨fails, rfl, hF4⟩ := open_fails h4
  clear hA0 hval0
  refine (law_any (idn := a0) (kind := a1) (imm := a2) (ac := cap3) (fc := cap4) hA3 hF4).mono fun e W' he => ?_
  obtain ⟨v, rfl, rfl, hfr⟩ := he
  have bel := hfr.below (Nat.le_refl _)
  exact ⟨_, rfl, _, _, _, [], _, [], hW', trodAll_mk1 (shut_bool Yba.underlying4 _),
    (trodAll_cons_mk (shut_int Yba.underlying22 w0) (trodAll_cons_mk (shut_int Yba.underlying5 w1) (trodAll_cons_mk (shut_bool Yba.underlying4 _)
      (trodAll_cons_mk (Below.trod laidOut (by kernel_rfl) (of_decide_eq_true (by kernel_rfl)) h3 bel lt3)
        (trodAll_cons_mk (Below.trod laidOut (by kernel_rfl) (of_decide_eq_true (by kernel_rfl)) h4 bel lt4) trodAll_mk0))))), rfl, bel.frame _, fun h => by cases h⟩

theorem over : Rows.lawS0698AAnswerRow.holds Yba.pinned (OpenSpec.ofChange Rows.lawS0698AAnswerSpec) :=
  OpenClaim.holds_of_wide 3 Yba.f3 rfl rfl rfl rfl rfl rfl rfl ⟨rfl, rfl, rfl, rfl, rfl⟩ rfl rfl rfl rfl rfl (by kernel_rfl) Yba.func3 (by kernel_rfl)
    (of_decide_eq_true (by kernel_rfl)) (by unfold Func.isWrapper; first | (rw [if_pos (by decide +kernel)]; kernel_rfl) | (rw [if_neg (by decide +kernel)]; exact ⟨rfl, rfl⟩))
    (fun os started H enc _ => lifted os started H enc)

/-- THE STATEMENT. -/
theorem proved : Rows.LawS0698AAnswerSaid := over
end Go.Proofs.Ybulknkw
