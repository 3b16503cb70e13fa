/- The row: the arguments opened, the walk, the arguments shut again. The frame is the guide's own. -/
import Derived.Test.YbulknmmLaw
import Derived.WalkKit
import Derived.ProofKit
import Derived.OpenShut
import Derived.ShutString
import Derived.ChangeOld
import Derived.Below
import Derived.Deep.Slices
namespace Go.Proofs.Ybulknmm
open Go.ChangeShapes Go.WideShapes Go.ChangeAt Go.RowKit
open Go.ChangeMaps (open_string shut_string)
set_option linter.unusedVariables false
set_option linter.unusedSimpArgs false

theorem own : ownKnob Yba.prog.godebug = none := by kernel_rfl
theorem laidOut : laidOutB Yba.prog = true := by kernel_rfl

theorem u8_nat {a : Int} (h : (Lit.int .u8 a).wf = true) : ∃ n : Nat, a = (n : Int) ∧ n < 256 := by
  have h' : IntKind.u8.min ≤ a ∧ a ≤ IntKind.u8.max := by simpa [Lit.wf, IntKind.has] using h
  rw [show IntKind.u8.min = 0 by kernel_rfl, show IntKind.u8.max = 255 by kernel_rfl] at h'
  exact ⟨a.toNat, by omega, by omega⟩
theorem spot_none {w : World} {a : Addr} {v : Value} (h : w.cell? a = some v) : a.spot = none := by
  unfold World.cell? at h
  split at h
  · split at h
    · cases h
    · rename_i hs
      simpa using hs
  · cases h
theorem add_plain (b o i : Nat) : (⟨b, o, none⟩ : Addr).add i = ⟨b, o + i, none⟩ := by
  unfold Addr.add
  split
  · subst_vars; rfl
  · rfl
theorem spot_zero {w : World} {a : Addr} {v : Value} (h : w.cell? (a.add 0) = some v) : a.spot = none := spot_none (a := a) (by simpa [Addr.add] using h)
theorem range_get {α : Type} {n : Nat} {f : Nat → α} {i : Nat} {a : α} (h : ((List.range n).map f)[i]? = some a) : i < n ∧ f i = a := by
  have hi : i < n := by have := (List.getElem?_eq_some_iff.1 h).1; simpa using this
  refine ⟨hi, ?_⟩
  rw [List.getElem?_map, List.getElem?_range hi] at h
  simpa using h

section
variable {H : Type} {enc : TypeId × Value → H} {w : World} {base : Nat} {spare : Nat → Bool} {held : Bool}
theorem open_keys {a : Option Addr} {len cap : Nat} {d : DataW H} {p : List MemPlace} (h : DataW.Trod enc Yba.prog w base spare held 22 (.slice a len cap) d p) :
    ∃ K : List ByteArray, K.length = len ∧ KeysAt w w.heap.size a K := by
  obtain ⟨fuel, hf⟩ := h
  rcases Go.Deep.open_slice1 Yba.underlying22 (by kernel_rfl) hf with ⟨hcs, _⟩ | ⟨x, l, c, m, n, V, D, Pl, hcs, _, hl, _, hm, _, hx⟩
  · simp [Value.cells] at hcs
    obtain ⟨rfl, rfl, rfl⟩ := hcs
    exact ⟨[], rfl, ⟨fun i a ha => by simp at ha⟩⟩
  · simp [Value.cells] at hcs
    obtain ⟨rfl, rfl, rfl⟩ := hcs
    have hlm : len ≤ m := by rw [hm]; split <;> omega
    refine ⟨(List.range len).map (fun i => match V i with | .string s => s | _ => ⟨#[]⟩), by simp, ⟨?_⟩⟩
    intro j t ht
    obtain ⟨hj, ht⟩ := range_get ht
    obtain ⟨hc, hd⟩ := hx j (by omega)
    obtain ⟨s, hs, _⟩ := DataW.trod_string Yba.underlying9 hd
    have hv : V j = .string s := by simpa using hs
    rw [hv] at ht hc
    have hsp := spot_zero (hx 0 (by omega)).1
    obtain ⟨b, o, sp⟩ := x
    simp only at hsp
    subst hsp
    rw [add_plain] at hc
    exact ⟨b, o, rfl, World.block_lt_of_cell? w _ hc, by rw [hc, ← ht]⟩
theorem open_lens {a : Option Addr} {len cap : Nat} {d : DataW H} {p : List MemPlace} (h : DataW.Trod enc Yba.prog w base spare held 23 (.slice a len cap) d p) : LensAt w w.heap.size a len := by
  obtain ⟨fuel, hf⟩ := h
  rcases Go.Deep.open_slice1 Yba.underlying23 (by kernel_rfl) hf with ⟨hcs, _⟩ | ⟨x, l, c, m, n, V, D, Pl, hcs, _, hl, _, hm, _, hx⟩
  · simp [Value.cells] at hcs
    obtain ⟨rfl, rfl, rfl⟩ := hcs
    exact ⟨fun i hi => by omega⟩
  · simp [Value.cells] at hcs
    obtain ⟨rfl, rfl, rfl⟩ := hcs
    have hlm : len ≤ m := by rw [hm]; split <;> omega
    refine ⟨?_⟩
    intro j hj
    obtain ⟨hc, hd⟩ := hx j (by omega)
    obtain ⟨z, hs, _, hw⟩ := DataW.trod_int Yba.underlying5 hd
    have hv : V j = .int .u8 z := by simpa using hs
    obtain ⟨v, rfl, hv2⟩ := u8_nat hw
    rw [hv] at hc
    have hsp := spot_zero (hx 0 (by omega)).1
    obtain ⟨b, o, sp⟩ := x
    simp only at hsp
    subst hsp
    rw [add_plain] at hc
    exact ⟨b, o, v, rfl, World.block_lt_of_cell? w _ hc, hv2, hc⟩
end

set_option maxRecDepth 100000 in
theorem lifted (os : Os) (started : os.Started) (H : Type) (enc : TypeId × Value → H) :
    ReturnsInHanded {} Yba.checked os 3 .any (Rows.lawS0701BDropSpec.pre6 enc Yba.prog Yba.f3 Rows.lawS0701BDropRow.domain false) (Rows.lawS0701BDropSpec.post enc Yba.prog Yba.f3 false true false false) := by
  refine returnsInHanded_of_change (C := Yba.checked) own started (by kernel_rfl) Yba.func3
    (ChangeSpec.witness6 (enc := enc) (C := Yba.checked) false ⟨#[], #[.slice none 0 0, .slice none 0 0, .int .u8 0, .int .u8 0, .bool false, .string ⟨#[]⟩], []⟩ 8 (by kernel_rfl) (by kernel_rfl) (by kernel_rfl) (by kernel_rfl)) ?_
  intro W base args ds gs before hval0 hW hcnd _
  have hval : ∀ (j : Nat) t v, Yba.f3.params[j]? = some t → args[j]? = some v → Value.okWide Yba.prog W .any base t v := hval0
  have hW' := hW
  obtain ⟨p, q, hA0, hV, rfl, hfz, hnd⟩ := hW
  have hA : DataW.TrodAll enc Yba.prog W 0 (fun _ => true) true Yba.f3.params.toList args.toList ds p := hA0
  rw [Yba.params3] at hA hval
  obtain ⟨v0, vs0, d0, ds0, p0, q0, hargs, rfl, rfl, h0, r0⟩ := trodAll_cons hA
  obtain ⟨v1, vs1, d1, ds1, p1, q1, rfl, rfl, rfl, h1, r1⟩ := trodAll_cons r0
  obtain ⟨v2, vs2, d2, ds2, p2, q2, rfl, rfl, rfl, h2, r2⟩ := trodAll_cons r1
  obtain ⟨v3, vs3, d3, ds3, p3, q3, rfl, rfl, rfl, h3, r3⟩ := trodAll_cons r2
  obtain ⟨v4, vs4, d4, ds4, p4, q4, rfl, rfl, rfl, h4, r4⟩ := trodAll_cons r3
  obtain ⟨v5, vs5, d5, ds5, p5, q5, rfl, rfl, rfl, h5, r5⟩ := trodAll_cons r4
  obtain ⟨rfl, rfl, rfl⟩ := trodAll_nil r5
  obtain rfl : args = #[v0, v1, v2, v3, v4, v5] := by cases args; simp_all
  obtain ⟨rfl, rfl⟩ := trodVars_none hV
  obtain ⟨a0, len0, cap0, rfl⟩ := okWide_slice Yba.underlying22 (hval 0 22 v0 rfl rfl)
  obtain ⟨a1, len1, cap1, rfl⟩ := okWide_slice Yba.underlying23 (hval 1 23 v1 rfl rfl)
  obtain ⟨a2, rfl, rfl, rfl, w2⟩ := open_int Yba.underlying5 (hval 2 5 v2 rfl rfl) h2
  obtain ⟨a3, rfl, rfl, rfl, w3⟩ := open_int Yba.underlying5 (hval 3 5 v3 rfl rfl) h3
  obtain ⟨a4, rfl, rfl, rfl⟩ := open_bool Yba.underlying4 (hval 4 4 v4 rfl rfl) h4
  obtain ⟨a5, rfl, rfl, rfl, w5⟩ := open_string Yba.underlying9 (hval 5 9 v5 rfl rfl) h5
  have lt0 : ∀ x ∈ p0, x.block < W.heap.size := by obtain ⟨m, hm⟩ := h0; exact DataW.trod_lt m _ _ _ hm
  have lt1 : ∀ x ∈ p1, x.block < W.heap.size := by obtain ⟨m, hm⟩ := h1; exact DataW.trod_lt m _ _ _ hm
  obtain ⟨K, rfl, hK⟩ := open_keys h0
  have hL := open_lens h1
  clear hA0 hval0
  obtain ⟨n2, rfl, l2⟩ := u8_nat w2
  obtain ⟨n3, rfl, l3⟩ := u8_nat w3
  refine (law_any (kc := cap0) (lc := cap1) (ue := a4) (target := a5) hK hL l2 l3).mono fun e W' he => ?_
  obtain ⟨v, rfl, rfl, hfr⟩ := he
  have bel := hfr.below (Nat.le_refl _)
  exact ⟨_, rfl, _, _, _, [], _, [], hW', trodAll_mk1 (shut_bool Yba.underlying4 _),
    (trodAll_cons_mk (Below.trod laidOut (by kernel_rfl) (of_decide_eq_true (by kernel_rfl)) h0 bel lt0) (trodAll_cons_mk (Below.trod laidOut (by kernel_rfl) (of_decide_eq_true (by kernel_rfl)) h1 bel lt1)
      (trodAll_cons_mk (shut_int Yba.underlying5 w2) (trodAll_cons_mk (shut_int Yba.underlying5 w3) (trodAll_cons_mk (shut_bool Yba.underlying4 _) (trodAll_cons_mk (shut_string Yba.underlying9 w5) trodAll_mk0)))))), rfl, bel.frame _, fun h => by cases h⟩

theorem over : Rows.lawS0701BDropRow.holds Yba.pinned (OpenSpec.ofChange Rows.lawS0701BDropSpec) :=
  OpenClaim.holds_of_wide 3 Yba.f3 rfl rfl rfl rfl rfl rfl rfl ⟨rfl, rfl, rfl, rfl, rfl⟩ rfl rfl rfl rfl rfl (by kernel_rfl) Yba.func3 (by kernel_rfl)
    (of_decide_eq_true (by kernel_rfl)) (by unfold Func.isWrapper; first | (rw [if_pos (by decide +kernel)]; kernel_rfl) | (rw [if_neg (by decide +kernel)]; exact ⟨rfl, rfl⟩))
    (fun os started H enc _ => lifted os started H enc)

/-- THE STATEMENT. -/
theorem proved : Rows.LawS0701BDropSaid := over
end Go.Proofs.Ybulknmm
