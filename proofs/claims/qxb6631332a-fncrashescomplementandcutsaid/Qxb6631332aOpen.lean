import Derived.Test.Qxb6631332aBase
import Derived.ProofKit
import Derived.OpenShut
import Derived.Deep.Slices
namespace Go.Proofs.Qxb6631332a
open Go.ChangeShapes Go.WideShapes Go.ChangeAt Go.RowKit
set_option linter.unusedVariables false

theorem Try.cells24 : Try.prog.cellsOf 24 = 6 := by kernel_rfl
theorem Try.cells4 : Try.prog.cellsOf 4 = 1 := by kernel_rfl
theorem Try.cells3 : Try.prog.cellsOf 3 = 1 := by kernel_rfl

section
variable {H : Type} {enc : TypeId × Value → H} {w : World} {base : Nat} {held : Bool}

theorem open_oc {fuel : Nat} {cs : List Value} {x : DataW H × List MemPlace} (h : DataW.trod enc Try.prog w base (fun _ => true) held fuel 24 cs = some x) : ∃ o : Oc, cs = o.cells := by
  obtain ⟨xs, n, _, _, hl, hlen, hf⟩ := DataW.trod_struct Try.underlying24 h
  rw [Try.cells24] at hl
  match cs, hl with
  | [c0, c1, c2, c3, c4, c5], _ =>
    match xs, hlen with
    | [x0, x1, x2, x3, x4, x5], _ =>
      have t0 := hf 0 _ rfl
      have t1 := hf 1 _ rfl
      have t2 := hf 2 _ rfl
      have t3 := hf 3 _ rfl
      have t4 := hf 4 _ rfl
      have t5 := hf 5 _ rfl
      simp [Try.cells3, Try.cells4] at t0 t1 t2 t3 t4 t5
      obtain ⟨d, e0, _⟩ := DataW.trod_bool Try.underlying4 t0
      obtain ⟨n, e1, _, _⟩ := DataW.trod_int Try.underlying3 t1
      obtain ⟨t, e2, _, _⟩ := DataW.trod_int Try.underlying3 t2
      obtain ⟨c, e3, _⟩ := DataW.trod_bool Try.underlying4 t3
      obtain ⟨r, e4, _⟩ := DataW.trod_bool Try.underlying4 t4
      obtain ⟨x, e5, _⟩ := DataW.trod_bool Try.underlying4 t5
      simp at e0 e1 e2 e3 e4 e5
      subst e0 e1 e2 e3 e4 e5
      exact ⟨⟨d, n, t, c, r, x⟩, rfl⟩

theorem open_run {fuel : Nat} {a0 : Option Addr} {len cap : Nat} {x : DataW H × List MemPlace} (h : DataW.trod enc Try.prog w 0 (fun _ => true) held fuel 22 [.slice a0 len cap] = some x) :
    (len = 0 ∨ ∃ b off zs, a0 = some ⟨b, off, none⟩ ∧ Run w b off len zs ∧ b < w.heap.size) ∧ len ≤ maxLen := by
  rcases Go.Deep.open_slice Try.underlying22 h with ⟨hcs, hx⟩ | ⟨a, len', cap', m, n, D, Pl, hcs, _, hl, hm, hmm, _, hel⟩
  · simp at hcs
    obtain ⟨rfl, rfl, rfl⟩ := hcs
    exact ⟨.inl rfl, by simp [maxLen]⟩
  · simp at hcs
    obtain ⟨rfl, rfl, rfl⟩ := hcs
    refine ⟨?_, by omega⟩
    by_cases h0 : len = 0
    · exact .inl h0
    right
    simp only [if_true] at hmm
    subst hmm
    rw [Try.cells24] at hel
    have one : ∀ i, i < len → ∃ r : Oc, w.cells? 0 (a.add (i * 6)) 6 = some r.cells := fun i hi => by
      obtain ⟨cs', h1, h2⟩ := hel i (by omega)
      obtain ⟨r, rfl⟩ := open_oc h2
      exact ⟨r, h1⟩
    haveI : Inhabited Oc := ⟨⟨false, 0, 0, false, false, false⟩⟩
    obtain ⟨zs, hes⟩ := Go.Deep.choose_lt one
    obtain ⟨b, off, spot⟩ := a
    have c0 := (World.cells?_some (hes 0 (by omega))).2.2 0 (by omega)
    have hspot : spot = none := by simpa [Addr.add] using World.cell?_spot c0
    subst hspot
    have hcell : ∀ i, i < len → ∀ j u, (zs i).cells[j]? = some u → w.cell? ⟨b, off + i * 6 + j, none⟩ = some u := fun i hi j u hj => by
      have hj6 : j < 6 := by
        rcases Nat.lt_or_ge j 6 with h1 | h1
        · exact h1
        · rw [List.getElem?_eq_none (by simpa [Oc.cells] using h1)] at hj; cases hj
      have := (World.cells?_some (hes i hi)).2.2 j hj6
      rw [Go.Deep.add_add, add_plain, hj] at this
      rw [← this, Nat.add_assoc]
    refine ⟨b, off, zs, rfl, hcell, ?_⟩
    exact World.block_lt_of_cell? w ⟨b, off + 0 * 6 + 0, none⟩ (hcell 0 (by omega) 0 _ rfl)

/-- An outcome by value. -/
theorem open_oc_val {r : Reach} {b0 : Nat} {v : Value} {d : DataW H} {p : List MemPlace} (hv : Value.okWide Try.prog w r b0 24 v) (h : DataW.Trod enc Try.prog w base (fun _ => true) held 24 v d p) :
    ∃ o : Oc, v = .agg #[.bool o.d, .int .i64 o.n, .int .i64 o.t, .bool o.c, .bool o.r, .bool o.x] := by
  obtain ⟨cs, rfl, hsz⟩ := okWide_struct Try.underlying24 hv
  obtain ⟨fuel, hf⟩ := h
  obtain ⟨o, ho⟩ := open_oc hf
  refine ⟨o, ?_⟩
  simp [Value.cells] at ho
  cases cs
  simp at ho
  subst ho
  rfl
end
end Go.Proofs.Qxb6631332a
