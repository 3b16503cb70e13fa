/- The laws' arguments, opened. -/
import Derived.Test.YbulknocFmtLw
import Derived.Test.YbulknocFmtCards
import Derived.SevenToldRow
import Derived.Stop.JoinedTold
import Derived.Stop.JoinedAt
import Derived.ProofKit
import Derived.JoinedOf
import Derived.WalkKit
import Derived.OpenShut
import Derived.ShutString
import Derived.ChangeOld
import Derived.Below
import Derived.Deep.Slices
namespace Go.Proofs.YbulknocFmt
open Go.ChangeShapes Go.WideShapes Go.ChangeAt Go.RowKit
open Go.Extern.Stop Go.Stop Go.Extern
set_option linter.unusedVariables false
set_option linter.unusedSimpArgs false

theorem u8_nat {a : Int} (h : (Lit.int .u8 a).wf = true) : ∃ n : Nat, a = (n : Int) ∧ n < 256 := by
  have h' : IntKind.u8.min ≤ a ∧ a ≤ IntKind.u8.max := by simpa [Lit.wf, IntKind.has] using h
  rw [show IntKind.u8.min = 0 by kernel_rfl, show IntKind.u8.max = 255 by kernel_rfl] at h'
  exact ⟨a.toNat, by omega, by omega⟩
theorem i8_int {a : Int} (h : (Lit.int .i8 a).wf = true) : -128 ≤ a ∧ a ≤ 127 := by
  have h' : IntKind.i8.min ≤ a ∧ a ≤ IntKind.i8.max := by simpa [Lit.wf, IntKind.has] using h
  rw [show IntKind.i8.min = -128 by kernel_rfl, show IntKind.i8.max = 127 by kernel_rfl] at h'
  exact h'
theorem spot_none {w : World} {a : Addr} {v : Value} (h : w.cell? a = some v) : a.spot = none := by
  unfold World.cell? at h
  split at h
  · split at h
    · cases h
    · rename_i hs
      simpa using hs
  · cases h
theorem add_plain (b o i : Nat) : (⟨b, o, none⟩ : Addr).add i = ⟨b, o + i, none⟩ := by
  unfold Addr.add
  split
  · subst_vars; rfl
  · rfl
theorem spot_zero {w : World} {a : Addr} {v : Value} (h : w.cell? (a.add 0) = some v) : a.spot = none := spot_none (a := a) (by simpa [Addr.add] using h)
theorem range_get {α : Type} {n : Nat} {f : Nat → α} {i : Nat} {a : α} (h : ((List.range n).map f)[i]? = some a) : i < n ∧ f i = a := by
  have hi : i < n := by have := (List.getElem?_eq_some_iff.1 h).1; simpa using this
  refine ⟨hi, ?_⟩
  rw [List.getElem?_map, List.getElem?_range hi] at h
  simpa using h

section
variable {H : Type} {enc : TypeId × Value → H} {w : World} {base : Nat} {spare : Nat → Bool} {held : Bool}
theorem open_i8s {fuel : Nat} {v : Value} {x : DataW H × List MemPlace} (h : DataW.trod enc Ybaf.prog w base spare held fuel 54 [v] = some x) :
    ∃ (a : Option Addr) (c : Nat) (ts : List Int), v = .slice a ts.length c ∧ ∀ (j : Nat) z, ts[j]? = some z → (∃ tb to, a = some ⟨tb, to, none⟩ ∧ tb < w.heap.size ∧ w.cell? ⟨tb, to + j, none⟩ = some (.int .i8 z)) ∧ -128 ≤ z ∧ z ≤ 127 := by
  rcases Go.Deep.open_slice1 Ybaf.underlying54 (by kernel_rfl) h with ⟨hcs, _⟩ | ⟨a, len, cap, m, n, V, D, Pl, hcs, _, hl, _, hm, _, hx⟩
  · exact ⟨none, 0, [], by simpa using hcs, fun j z hz => by simp at hz⟩
  · have hlm : len ≤ m := by rw [hm]; split <;> omega
    refine ⟨some a, cap, (List.range len).map (fun i => match V i with | .int _ z => z | _ => 0), by simpa using hcs, ?_⟩
    intro j t ht
    obtain ⟨hj, ht⟩ := range_get ht
    obtain ⟨hc, hd⟩ := hx j (by omega)
    obtain ⟨z, hs, _, hw⟩ := DataW.trod_int Ybaf.underlying25 hd
    have hv : V j = .int .i8 z := by simpa using hs
    rw [hv] at ht hc
    simp only at ht
    subst ht
    have hsp := spot_zero (hx 0 (by omega)).1
    obtain ⟨b, o, sp⟩ := a
    simp only at hsp
    subst hsp
    rw [add_plain] at hc
    exact ⟨⟨b, o, rfl, World.block_lt_of_cell? w _ hc, hc⟩, i8_int hw⟩
theorem open_bools {fuel : Nat} {v : Value} {x : DataW H × List MemPlace} (h : DataW.trod enc Ybaf.prog w base spare held fuel 62 [v] = some x) :
    ∃ (a : Option Addr) (c : Nat) (ts : List Bool), v = .slice a ts.length c ∧ ∀ (j : Nat) z, ts[j]? = some z → ∃ tb to, a = some ⟨tb, to, none⟩ ∧ tb < w.heap.size ∧ w.cell? ⟨tb, to + j, none⟩ = some (.bool z) := by
  rcases Go.Deep.open_slice1 Ybaf.underlying62 (by kernel_rfl) h with ⟨hcs, _⟩ | ⟨a, len, cap, m, n, V, D, Pl, hcs, _, hl, _, hm, _, hx⟩
  · exact ⟨none, 0, [], by simpa using hcs, fun j z hz => by simp at hz⟩
  · have hlm : len ≤ m := by rw [hm]; split <;> omega
    refine ⟨some a, cap, (List.range len).map (fun i => match V i with | .bool z => z | _ => false), by simpa using hcs, ?_⟩
    intro j t ht
    obtain ⟨hj, ht⟩ := range_get ht
    obtain ⟨hc, hd⟩ := hx j (by omega)
    obtain ⟨z, hs, _⟩ := DataW.trod_bool Ybaf.underlying4 hd
    have hv : V j = .bool z := by simpa using hs
    rw [hv] at ht hc
    simp only at ht
    subst ht
    have hsp := spot_zero (hx 0 (by omega)).1
    obtain ⟨b, o, sp⟩ := a
    simp only at hsp
    subst hsp
    rw [add_plain] at hc
    exact ⟨b, o, rfl, World.block_lt_of_cell? w _ hc, hc⟩
theorem open_u8s {fuel : Nat} {v : Value} {x : DataW H × List MemPlace} (h : DataW.trod enc Ybaf.prog w base spare held fuel 55 [v] = some x) :
    ∃ (a : Option Addr) (c : Nat) (ts : List Nat), v = .slice a ts.length c ∧ ∀ (j : Nat) z, ts[j]? = some z → (∃ tb to, a = some ⟨tb, to, none⟩ ∧ tb < w.heap.size ∧ w.cell? ⟨tb, to + j, none⟩ = some (.int .u8 (z : Nat))) ∧ z < 256 := by
  rcases Go.Deep.open_slice1 Ybaf.underlying55 (by kernel_rfl) h with ⟨hcs, _⟩ | ⟨a, len, cap, m, n, V, D, Pl, hcs, _, hl, _, hm, _, hx⟩
  · exact ⟨none, 0, [], by simpa using hcs, fun j z hz => by simp at hz⟩
  · have hlm : len ≤ m := by rw [hm]; split <;> omega
    refine ⟨some a, cap, (List.range len).map (fun i => match V i with | .int _ z => z.toNat | _ => 0), by simpa using hcs, ?_⟩
    intro j t ht
    obtain ⟨hj, ht⟩ := range_get ht
    obtain ⟨hc, hd⟩ := hx j (by omega)
    obtain ⟨z, hs, _, hw⟩ := DataW.trod_int Ybaf.underlying5 hd
    have hv : V j = .int .u8 z := by simpa using hs
    obtain ⟨n', rfl, hn'⟩ := u8_nat hw
    rw [hv] at ht hc
    simp only [Int.toNat_natCast] at ht
    subst ht
    have hsp := spot_zero (hx 0 (by omega)).1
    obtain ⟨b, o, sp⟩ := a
    simp only at hsp
    subst hsp
    rw [add_plain] at hc
    exact ⟨⟨b, o, rfl, World.block_lt_of_cell? w _ hc, hc⟩, hn'⟩
theorem open_times {a : Option Addr} {len cap : Nat} {d : DataW H} {p : List MemPlace} (h : DataW.Trod enc Ybaf.prog w base spare held 22 (.slice a len cap) d p) : ∃ TS : List Tms, TS.length = len ∧ TimesAt w w.heap.size a TS := by
  obtain ⟨fuel, hf⟩ := h
  rcases Go.Deep.open_slice1 Ybaf.underlying22 (by kernel_rfl) hf with ⟨hcs, _⟩ | ⟨x, l, c, m, n, V, D, Pl, hcs, _, hl, _, hm, _, hx⟩
  · simp [Value.cells] at hcs
    obtain ⟨rfl, rfl, rfl⟩ := hcs
    exact ⟨[], rfl, ⟨fun i a ha => by simp at ha, fun i a ha => by simp at ha⟩⟩
  · simp [Value.cells] at hcs
    obtain ⟨rfl, rfl, rfl⟩ := hcs
    have hlm : len ≤ m := by rw [hm]; split <;> omega
    have each : ∀ i, i < len → ∃ q : Tms, x.spot = none ∧ w.cell? (x.add i) = some (.slice q.a q.l.length q.c) ∧ ∀ (j : Nat) z, q.l[j]? = some z → (∃ tb to, q.a = some ⟨tb, to, none⟩ ∧ tb < w.heap.size ∧ w.cell? ⟨tb, to + j, none⟩ = some (.int .i8 z)) ∧ -128 ≤ z ∧ z ≤ 127 := by
      intro i hi
      obtain ⟨hc, hd⟩ := hx i (by omega)
      obtain ⟨ta, tc, ts, hv, hts⟩ := open_i8s hd
      rw [hv] at hc
      exact ⟨⟨ta, tc, ts⟩, spot_zero (hx 0 (by omega)).1, hc, hts⟩
    haveI : Inhabited Tms := ⟨⟨none, 0, []⟩⟩
    obtain ⟨q, hq⟩ := Go.Deep.choose_lt each
    refine ⟨(List.range len).map q, by simp, ⟨?_, ?_⟩⟩
    · intro i a ha
      obtain ⟨hi, rfl⟩ := range_get ha
      obtain ⟨hsp, h0, _⟩ := hq i hi
      obtain ⟨b, o, sp⟩ := x
      simp only at hsp
      subst hsp
      rw [add_plain] at h0
      exact ⟨b, o, rfl, World.block_lt_of_cell? w _ h0, h0⟩
    · intro i a ha j t ht
      obtain ⟨hi, rfl⟩ := range_get ha
      exact (hq i hi).2.2 j t ht
theorem open_nulls {a : Option Addr} {len cap : Nat} {d : DataW H} {p : List MemPlace} (h : DataW.Trod enc Ybaf.prog w base spare held 23 (.slice a len cap) d p) : ∃ NS : List Nls, NS.length = len ∧ NullsAt w w.heap.size a NS := by
  obtain ⟨fuel, hf⟩ := h
  rcases Go.Deep.open_slice1 Ybaf.underlying23 (by kernel_rfl) hf with ⟨hcs, _⟩ | ⟨x, l, c, m, n, V, D, Pl, hcs, _, hl, _, hm, _, hx⟩
  · simp [Value.cells] at hcs
    obtain ⟨rfl, rfl, rfl⟩ := hcs
    exact ⟨[], rfl, ⟨fun i a ha => by simp at ha, fun i a ha => by simp at ha⟩⟩
  · simp [Value.cells] at hcs
    obtain ⟨rfl, rfl, rfl⟩ := hcs
    have hlm : len ≤ m := by rw [hm]; split <;> omega
    have each : ∀ i, i < len → ∃ q : Nls, x.spot = none ∧ w.cell? (x.add i) = some (.slice q.a q.l.length q.c) ∧ ∀ (j : Nat) z, q.l[j]? = some z → ∃ tb to, q.a = some ⟨tb, to, none⟩ ∧ tb < w.heap.size ∧ w.cell? ⟨tb, to + j, none⟩ = some (.bool z) := by
      intro i hi
      obtain ⟨hc, hd⟩ := hx i (by omega)
      obtain ⟨ta, tc, ts, hv, hts⟩ := open_bools hd
      rw [hv] at hc
      exact ⟨⟨ta, tc, ts⟩, spot_zero (hx 0 (by omega)).1, hc, hts⟩
    haveI : Inhabited Nls := ⟨⟨none, 0, []⟩⟩
    obtain ⟨q, hq⟩ := Go.Deep.choose_lt each
    refine ⟨(List.range len).map q, by simp, ⟨?_, ?_⟩⟩
    · intro i a ha
      obtain ⟨hi, rfl⟩ := range_get ha
      obtain ⟨hsp, h0, _⟩ := hq i hi
      obtain ⟨b, o, sp⟩ := x
      simp only at hsp
      subst hsp
      rw [add_plain] at h0
      exact ⟨b, o, rfl, World.block_lt_of_cell? w _ h0, h0⟩
    · intro i a ha j t ht
      obtain ⟨hi, rfl⟩ := range_get ha
      exact (hq i hi).2.2 j t ht
theorem Ybaf.ce57 : Ybaf.prog.cellsOf 57 = 5 := by kernel_rfl
theorem Ybaf.fields57 : ∃ f0 f1 f2 f3 f4, Ybaf.prog.underlying 57 = some (.struct #[f0, f1, f2, f3, f4]) ∧ (f0.type = 5 ∧ f0.offset = 0) ∧ (f1.type = 55 ∧ f1.offset = 1) ∧ (f2.type = 4 ∧ f2.offset = 2) ∧ (f3.type = 25 ∧ f3.offset = 3) ∧ (f4.type = 25 ∧ f4.offset = 4) := ⟨_, _, _, _, _, Ybaf.underlying57, ⟨rfl, rfl⟩, ⟨rfl, rfl⟩, ⟨rfl, rfl⟩, ⟨rfl, rfl⟩, ⟨rfl, rfl⟩⟩
set_option maxRecDepth 100000 in
theorem open_srcs {a : Option Addr} {len cap : Nat} {d : DataW H} {p : List MemPlace} (h : DataW.Trod enc Ybaf.prog w base spare held 24 (.slice a len cap) d p) : ∃ SS : List Src, SS.length = len ∧ SrcsAt w w.heap.size a SS := by
  obtain ⟨fuel, hf⟩ := h
  rcases Go.Deep.open_slice Ybaf.underlying24 hf with ⟨hcs, _⟩ | ⟨x, l, c, m, n, D, Pl, hcs, _, hl, _, hm, _, hx⟩
  · simp [Value.cells] at hcs
    obtain ⟨rfl, rfl, rfl⟩ := hcs
    exact ⟨[], rfl, ⟨fun i a ha => by simp at ha, fun i a ha => by simp at ha, fun s hs => by cases hs⟩⟩
  · simp [Value.cells] at hcs
    obtain ⟨rfl, rfl, rfl⟩ := hcs
    have hlm : len ≤ m := by rw [hm]; split <;> omega
    rw [Ybaf.ce57] at hx
    obtain ⟨f0, f1, f2, f3, f4, hu, ⟨t0, o0⟩, ⟨t1, o1⟩, ⟨t2, o2⟩, ⟨t3, o3⟩, ⟨t4, o4⟩⟩ := Ybaf.fields57
    have c5 : Ybaf.prog.cellsOf 5 = 1 := by kernel_rfl
    have c55 : Ybaf.prog.cellsOf 55 = 1 := by kernel_rfl
    have c4 : Ybaf.prog.cellsOf 4 = 1 := by kernel_rfl
    have c25 : Ybaf.prog.cellsOf 25 = 1 := by kernel_rfl
    have each : ∀ i, i < len → ∃ q : Src, x.spot = none ∧ (w.cell? (x.add (i * 5 + 0)) = some (.int .u8 (q.table : Nat)) ∧ w.cell? (x.add (i * 5 + 1)) = some (.slice q.ra q.rows.length q.rc) ∧ w.cell? (x.add (i * 5 + 2)) = some (.bool q.whole) ∧ w.cell? (x.add (i * 5 + 3)) = some (.int .i8 q.start) ∧ w.cell? (x.add (i * 5 + 4)) = some (.int .i8 q.stop)) ∧
        (∀ (j : Nat) z, q.rows[j]? = some z → (∃ tb to, q.ra = some ⟨tb, to, none⟩ ∧ tb < w.heap.size ∧ w.cell? ⟨tb, to + j, none⟩ = some (.int .u8 (z : Nat)))) ∧ q.Ok := by
      intro i hi
      obtain ⟨cs', h1, h2⟩ := hx i (by omega)
      obtain ⟨_, hlen, hcell⟩ := World.cells?_some h1
      obtain ⟨xs, k, hk, hxy, _, hxl, hf⟩ := DataW.trod_struct hu h2
      match xs, hxl, cs', hlen with
      | [y0, y1, y2, y3, y4], _, [v0, v1, v2, v3, v4], _ =>
        have g0 := hf 0 f0 rfl
        have g1 := hf 1 f1 rfl
        have g2 := hf 2 f2 rfl
        have g3 := hf 3 f3 rfl
        have g4 := hf 4 f4 rfl
        simp [t0, o0, c5] at g0
        simp [t1, o1, c55] at g1
        simp [t2, o2, c4] at g2
        simp [t3, o3, c25] at g3
        simp [t4, o4, c25] at g4
        have e0 := hcell 0 (by omega)
        have e1 := hcell 1 (by omega)
        have e2 := hcell 2 (by omega)
        have e3 := hcell 3 (by omega)
        have e4 := hcell 4 (by omega)
        rw [Go.Deep.add_add] at e0 e1 e2 e3 e4
        obtain ⟨z0, hs0, _, w0⟩ := DataW.trod_int Ybaf.underlying5 g0
        obtain ⟨ra, rc, rows, hs1, hrows⟩ := open_u8s g1
        obtain ⟨z2, hs2, _⟩ := DataW.trod_bool Ybaf.underlying4 g2
        obtain ⟨z3, hs3, _, w3⟩ := DataW.trod_int Ybaf.underlying25 g3
        obtain ⟨z4, hs4, _, w4⟩ := DataW.trod_int Ybaf.underlying25 g4
        obtain ⟨n0, rfl, hn0⟩ := u8_nat w0
        simp at hs0 hs2 hs3 hs4
        subst hs0 hs1 hs2 hs3 hs4
        have hsp : x.spot = none := by
          obtain ⟨cs0, h10, _⟩ := hx 0 (by omega)
          obtain ⟨_, hlen0, hcell0⟩ := World.cells?_some h10
          have e := hcell0 0 (by omega)
          rw [Go.Deep.add_add] at e
          cases cs0 with
          | nil => simp at hlen0
          | cons v _ => exact spot_zero (v := v) (by simpa using e)
        refine ⟨⟨n0, ra, rc, rows, z2, z3, z4⟩, hsp, ⟨by simpa using e0, by simpa using e1, by simpa using e2, by simpa using e3, by simpa using e4⟩, fun j z hz => (hrows j z hz).1, ⟨hn0, fun r hr => ?_, i8_int w3, i8_int w4⟩⟩
        obtain ⟨j, hj⟩ := List.getElem?_of_mem hr
        exact (hrows j r hj).2
    haveI : Inhabited Src := ⟨⟨0, none, 0, [], false, 0, 0⟩⟩
    obtain ⟨q, hq⟩ := Go.Deep.choose_lt each
    refine ⟨(List.range len).map q, by simp, ⟨?_, ?_, ?_⟩⟩
    · intro i a ha
      obtain ⟨hi, rfl⟩ := range_get ha
      obtain ⟨hsp, ⟨h0, h1, h2, h3, h4⟩, _⟩ := hq i hi
      obtain ⟨b, o, sp⟩ := x
      simp only at hsp
      subst hsp
      rw [add_plain, ← Nat.add_assoc] at h0 h1 h2 h3 h4
      exact ⟨b, o, rfl, World.block_lt_of_cell? w _ h0, h0, h1, h2, h3, h4⟩
    · intro i a ha j t ht
      obtain ⟨hi, rfl⟩ := range_get ha
      exact (hq i hi).2.2.1 j t ht
    · intro s hs
      obtain ⟨i, hi, rfl⟩ := List.mem_map.1 hs
      exact (hq i (List.mem_range.1 hi)).2.2.2
end
end Go.Proofs.YbulknocFmt
