import Derived.Test.Qxb6631276aSepN
import Derived.Test.Qxb6631276aSep1
import Derived.Test.Qxb6631276aOpenSep
import Derived.ShutString
import Derived.ChangeOld
import Derived.Below
namespace Go.Proofs.Qxb6631276a.fnLeafSplitSeparates
open Go.ChangeShapes Go.WideShapes Go.ChangeAt Go.RowKit
set_option linter.unusedVariables false

theorem own : ownKnob Try.prog.godebug = none := by kernel_rfl
theorem laidOut : laidOutB Try.prog = true := by kernel_rfl

set_option maxRecDepth 100000 in
theorem walk_nil (a : Option Addr) (c : Nat) (kind : Int) (w : World) :
    Calls Try.prog 4 #[.slice a 0 c, .int .i64 kind] w fun e w' => e = .returned (.bool true) ∧ Below w.heap.size w w' := by
  go_enter Try.func4, Try.ntmps4
  go_wp2_with fail
  refine (zzb_nil12 a c kind _).mono ?_
  rintro e w' ⟨rfl, rfl⟩
  go_wp2_with fail
  refine (wb_nil a c _).mono ?_
  rintro e w' ⟨rfl, rfl⟩
  go_wp2
  go_ret
  exact ⟨rfl, Below.refl _ _⟩

theorem walk (a : Option Addr) (n c : Nat) (kind : Int) (w : World) (h : n = 0 ∨ ∃ b off es, a = some ⟨b, off, none⟩ ∧ Ins w b off n es ∧ (∀ i, i < n → Ok w (es i)) ∧ (∀ i, i < n → ∀ x ∈ (es i).k, 0 ≤ x) ∧ b < w.heap.size) (hn : n ≤ c) (hc : c ≤ maxLen) (_ : (Lit.int .i64 kind).wf = true) :
    Calls Try.prog 4 #[.slice a n c, .int .i64 kind] w fun e w' => e = .returned (.bool true) ∧ Below w.heap.size w w' := by
  rcases h with rfl | ⟨b, off, es, rfl, hin, hok, hnn, hb⟩
  · exact walk_nil a c kind w
  · by_cases k1 : kind = 1
    · subst k1
      exact sep1 b off n c es w hn hc hin hok hnn hb
    · exact sepn b off n c kind k1 es w hn hc hin hok hnn hb

set_option maxRecDepth 100000 in
theorem lifted (os : Os) (started : os.Started) (H : Type) (enc : TypeId × Value → H) :
    ReturnsInHanded {} Try.checked os 4 .any (Rows.fnLeafSplitSeparatesSpec.pre6 enc Try.prog Try.f4 Rows.fnLeafSplitSeparatesRow.domain false) (Rows.fnLeafSplitSeparatesSpec.post enc Try.prog Try.f4 false true false false) := by
  refine returnsInHanded_of_change (C := Try.checked) own started (by kernel_rfl) Try.func4
    (ChangeSpec.witness6 (enc := enc) (C := Try.checked) false ⟨#[], #[.slice none 0 0, .int .i64 0], []⟩ 8 (by kernel_rfl) (by kernel_rfl) (by kernel_rfl) (by kernel_rfl)) ?_
  intro W base args ds gs before hval0 hW hcnd _
  have hval : ∀ (j : Nat) t v, Try.f4.params[j]? = some t → args[j]? = some v → Value.okWide Try.prog W .any base t v := hval0
  have hW' := hW
  obtain ⟨p, q, hA0, hV, rfl, hfz, hnd⟩ := hW
  have hA : DataW.TrodAll enc Try.prog W 0 (fun _ => true) true Try.f4.params.toList args.toList ds p := hA0
  rw [Try.params4] at hA hval
  obtain ⟨v0, vs0, d0, ds0, p0, q0, hargs, rfl, rfl, h0, r0⟩ := trodAll_cons hA
  obtain ⟨v1, vs1, d1, ds1, p1, q1, rfl, rfl, rfl, h1, r1⟩ := trodAll_cons r0
  obtain ⟨rfl, rfl, rfl⟩ := trodAll_nil r1
  obtain rfl : args = #[v0, v1] := by cases args; simp_all
  obtain ⟨rfl, rfl⟩ := trodVars_none hV
  obtain ⟨a0, len0, cap0, rfl⟩ := okWide_slice Try.underlying22 (hval 0 22 v0 rfl rfl)
  have k0 := h0
  have lt0 : ∀ x ∈ p0, x.block < W.heap.size := by obtain ⟨m, hm⟩ := k0; exact DataW.trod_lt m _ _ _ hm
  obtain ⟨hrecs, hlc, hcm⟩ : (len0 = 0 ∨ ∃ b off es, a0 = some ⟨b, off, none⟩ ∧ Ins W b off len0 es ∧ (∀ i, i < len0 → Ok W (es i)) ∧ (∀ i, i < len0 → ∀ x ∈ (es i).k, 0 ≤ x) ∧ b < W.heap.size) ∧ len0 ≤ cap0 ∧ cap0 ≤ maxLen := by
    obtain ⟨fuel, hf⟩ := h0
    exact open_recs0 (by simpa [Value.cells] using hf)
  obtain ⟨a1, rfl, rfl, rfl, w1⟩ := open_int Try.underlying3 (hval 1 3 v1 rfl rfl) h1
  clear hA0 hval0
  refine (walk a0 len0 cap0 a1 W hrecs hlc hcm w1).mono fun e W' ⟨he, bel⟩ => ?_
  subst he
  exact ⟨_, rfl, _, _, _, [], _, [], hW', trodAll_mk1 (shut_bool Try.underlying4 _), (trodAll_cons_mk (Below.trod laidOut (by kernel_rfl) (of_decide_eq_true (by kernel_rfl)) k0 bel lt0) (trodAll_cons_mk (shut_int Try.underlying3 w1) trodAll_mk0)), rfl, bel.frame _, fun h => by cases h⟩

theorem over : Rows.fnLeafSplitSeparatesRow.holds Try.pinned (OpenSpec.ofChange Rows.fnLeafSplitSeparatesSpec) :=
  OpenClaim.holds_of_wide 4 Try.f4 rfl rfl rfl rfl rfl rfl rfl ⟨rfl, rfl, rfl, rfl, rfl⟩ rfl rfl rfl rfl rfl (by kernel_rfl) Try.func4 (by kernel_rfl)
    (of_decide_eq_true (by kernel_rfl)) (by unfold Func.isWrapper; first | (rw [if_pos (by decide +kernel)]; kernel_rfl) | (rw [if_neg (by decide +kernel)]; exact ⟨rfl, rfl⟩))
    (fun os started H enc _ => lifted os started H enc)

/-- THE STATEMENT -/
theorem proved : Rows.FnLeafSplitSeparatesSaid :=
  over
#print axioms proved
end Go.Proofs.Qxb6631276a.fnLeafSplitSeparates
