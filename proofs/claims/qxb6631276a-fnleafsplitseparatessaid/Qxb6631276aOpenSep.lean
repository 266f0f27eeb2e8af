import Derived.Test.Qxb6631276aLeaf
import Derived.ProofKit
import Derived.OpenShut
import Derived.Deep.Slices
namespace Go.Proofs.Qxb6631276a
open Go.ChangeShapes Go.WideShapes Go.ChangeAt Go.RowKit
set_option linter.unusedVariables false

theorem cells0_31 : Try.prog.cellsOf 31 = 6 := by kernel_rfl
theorem cells0_27 : Try.prog.cellsOf 27 = 1 := by kernel_rfl
theorem cells0_28 : Try.prog.cellsOf 28 = 1 := by kernel_rfl
theorem cells0_4 : Try.prog.cellsOf 4 = 1 := by kernel_rfl
theorem cells0_29 : Try.prog.cellsOf 29 = 1 := by kernel_rfl
theorem cells0_5 : Try.prog.cellsOf 5 = 1 := by kernel_rfl

section
variable {H : Type} {enc : TypeId × Value → H} {w : World} {base : Nat} {held : Bool}

theorem open_bytes0 {fuel : Nat} {c : Value} {x : DataW H × List MemPlace} (h : DataW.trod enc Try.prog w base (fun _ => true) held fuel 27 [c] = some x) :
    ∃ a n cap l, c = .slice a n cap ∧ Byt w a n l ∧ n ≤ cap ∧ cap ≤ maxLen ∧ (a = none → n = 0) ∧ ∀ x ∈ l, 0 ≤ x := by
  rcases open_ints Try.underlying27 Try.underlying5 cells0_5 h with ⟨hcs, hx⟩ | ⟨a, len, cap, zs, hcs, _, hl, hm, hz, _, hcell, hwz⟩
  · simp at hcs
    subst hcs
    exact ⟨none, 0, 0, [], rfl, ⟨rfl, .inl rfl⟩, Nat.le_refl _, by simp [maxLen], fun _ => rfl, by simp⟩
  · simp at hcs
    subst hcs
    simp only [if_true] at hz
    refine ⟨some a, len, cap, zs.take len, rfl, ⟨by simp; omega, ?_⟩, hl, hm, by simp, fun x hx => (bounds_u8 (hwz x (List.mem_of_mem_take hx))).1⟩
    by_cases h0 : len = 0
    · exact .inl h0
    · right
      obtain ⟨b, off, spot⟩ := a
      have hspot : spot = none := by simpa [Addr.add] using World.cell?_spot (hcell 0 (by omega))
      subst hspot
      refine ⟨b, off, rfl, fun i hi => ?_⟩
      have := hcell i (by omega)
      rw [add_plain] at this
      rw [this]
      simp [List.getD, hi]

theorem open_rec0 {fuel : Nat} {cs : List Value} {x : DataW H × List MemPlace} (h : DataW.trod enc Try.prog w base (fun _ => true) held fuel 31 cs = some x) :
    ∃ r : Rec, cs = r.icells ∧ Ok w r ∧ ∀ x ∈ r.k, 0 ≤ x := by
  obtain ⟨xs, n, _, _, hl, hlen, hf⟩ := DataW.trod_struct Try.underlying31 h
  rw [cells0_31] at hl
  match cs, hl with
  | [c0, c1, c2, c3, c4, c5], _ =>
    match xs, hlen with
    | [x0, x1, x2, x3, x4, x5], _ =>
      have t0 := hf 0 _ rfl
      have t1 := hf 1 _ rfl
      have t2 := hf 2 _ rfl
      have t3 := hf 3 _ rfl
      have t4 := hf 4 _ rfl
      have t5 := hf 5 _ rfl
      simp [cells0_27, cells0_28, cells0_4, cells0_29] at t0 t1 t2 t3 t4 t5
      obtain ⟨ka, kn, kc, k, rfl, Bk, k1, k2, k3, k4⟩ := open_bytes0 t0
      obtain ⟨txn, e1, _, _⟩ := DataW.trod_int Try.underlying28 t1
      obtain ⟨del, e2, _⟩ := DataW.trod_bool Try.underlying4 t2
      obtain ⟨va, vn, vc, v, rfl, Bv, _, _, _, _⟩ := open_bytes0 t3
      obtain ⟨f, e4, _, _⟩ := DataW.trod_int Try.underlying29 t4
      obtain ⟨s, e5, _, _⟩ := DataW.trod_int Try.underlying29 t5
      simp at e1 e2 e4 e5
      subst e1 e2 e4 e5
      exact ⟨⟨ka, kn, kc, k, txn, del, va, vn, vc, v, f, s⟩, rfl, ⟨Bk, Bv, k1, k2, k3⟩, k4⟩

theorem open_recs0 {fuel : Nat} {a0 : Option Addr} {len cap : Nat} {x : DataW H × List MemPlace} (h : DataW.trod enc Try.prog w 0 (fun _ => true) held fuel 22 [.slice a0 len cap] = some x) :
    (len = 0 ∨ ∃ b off es, a0 = some ⟨b, off, none⟩ ∧ Ins w b off len es ∧ (∀ i, i < len → Ok w (es i)) ∧ (∀ i, i < len → ∀ x ∈ (es i).k, 0 ≤ x) ∧ b < w.heap.size) ∧ len ≤ cap ∧ cap ≤ maxLen := by
  rcases Go.Deep.open_slice Try.underlying22 h with ⟨hcs, hx⟩ | ⟨a, len', cap', m, n, D, Pl, hcs, _, hl, hm, hmm, _, hel⟩
  · simp at hcs
    obtain ⟨rfl, rfl, rfl⟩ := hcs
    exact ⟨.inl rfl, Nat.le_refl _, by simp [maxLen]⟩
  · simp at hcs
    obtain ⟨rfl, rfl, rfl⟩ := hcs
    refine ⟨?_, hl, hm⟩
    by_cases h0 : len = 0
    · exact .inl h0
    right
    simp only [if_true] at hmm
    subst hmm
    rw [cells0_31] at hel
    have one : ∀ i, i < len → ∃ r : Rec, w.cells? 0 (a.add (i * 6)) 6 = some r.icells ∧ Ok w r ∧ ∀ x ∈ r.k, 0 ≤ x := fun i hi => by
      obtain ⟨cs', h1, h2⟩ := hel i (by omega)
      obtain ⟨r, rfl, ok⟩ := open_rec0 h2
      exact ⟨r, h1, ok⟩
    haveI : Inhabited Rec := ⟨⟨none, 0, 0, [], 0, false, none, 0, 0, [], 0, 0⟩⟩
    obtain ⟨es, hes⟩ := Go.Deep.choose_lt one
    obtain ⟨b, off, spot⟩ := a
    have c0 := (World.cells?_some (hes 0 (by omega)).1).2.2 0 (by omega)
    have hspot : spot = none := by simpa [Addr.add] using World.cell?_spot c0
    subst hspot
    have hcell : ∀ i, i < len → ∀ j u, (es i).icells[j]? = some u → w.cell? ⟨b, off + i * 6 + j, none⟩ = some u := fun i hi j u hj => by
      have hj6 : j < 6 := by
        rcases Nat.lt_or_ge j 6 with h1 | h1
        · exact h1
        · rw [List.getElem?_eq_none (by simpa [Rec.icells] using h1)] at hj; cases hj
      have := (World.cells?_some (hes i hi).1).2.2 j hj6
      rw [Go.Deep.add_add, add_plain, hj] at this
      rw [← this, Nat.add_assoc]
    refine ⟨b, off, es, rfl, hcell, fun i hi => (hes i hi).2.1, fun i hi => (hes i hi).2.2, ?_⟩
    exact World.block_lt_of_cell? w ⟨b, off + 0 * 6 + 0, none⟩ (hcell 0 (by omega) 0 _ rfl)
end
end Go.Proofs.Qxb6631276a
