import Derived.Test.Qxb6631332aComp
import Derived.Test.Qxb6631332aOpen
import Derived.ChangeOld
import Derived.Below
namespace Go.Proofs.Qxb6631332a.fnCrashesComplementAndCut
open Go.ChangeShapes Go.WideShapes Go.ChangeAt Go.RowKit
set_option linter.unusedVariables false

theorem own : ownKnob Try.prog.godebug = none := by kernel_rfl
theorem laidOut : laidOutB Try.prog = true := by kernel_rfl

/-- Too many outcomes, or the cut lies outside. -/
theorem walk_out (a : Option Addr) (n c : Nat) (q y z : Int) (w : World) (hn : n ≤ maxLen) (h : 16384 < n ∨ q < 0 ∨ (n : Int) < q) :
    Calls Try.prog 4 #[.slice a n c, .int .i64 q, .int .i64 y, .int .i64 z] w fun e w' => e = .returned (.bool true) ∧ Below w.heap.size w w' := by
  have hn' := hn
  unfold maxLen at hn'
  by_cases h1 : 16384 < n
  · go_enter Try.func4, Try.ntmps4
    go_wp2_with fail
    refine (zzb9 a n c q y z _ hn).mono ?_
    rintro e w1 ⟨⟨x, rfl⟩, rfl⟩
    cases x
    all_goals
      go_wp2
      go_ret
      exact ⟨rfl, Below.refl _ _⟩
  · by_cases h2 : q < 0
    · go_enter Try.func4, Try.ntmps4
      go_wp2_with fail
      refine (zzb9 a n c q y z _ hn).mono ?_
      rintro e w1 ⟨⟨x, rfl⟩, rfl⟩
      cases x
      all_goals
        go_wp2
        go_ret
        exact ⟨rfl, Below.refl _ _⟩
    · have h3 : (n : Int) < q := by omega
      go_enter Try.func4, Try.ntmps4
      go_wp2_with fail
      refine (zzb9 a n c q y z _ hn).mono ?_
      rintro e w1 ⟨⟨x, rfl⟩, rfl⟩
      cases x
      all_goals
        go_wp2
        go_ret
        exact ⟨rfl, Below.refl _ _⟩

theorem walk (a : Option Addr) (n c : Nat) (q y z : Int) (w : World) (h : n = 0 ∨ ∃ b off zs, a = some ⟨b, off, none⟩ ∧ Run w b off n zs ∧ b < w.heap.size) (hn : n ≤ maxLen) :
    Calls Try.prog 4 #[.slice a n c, .int .i64 q, .int .i64 y, .int .i64 z] w fun e w' => e = .returned (.bool true) ∧ Below w.heap.size w w' := by
  by_cases hout : 16384 < n ∨ q < 0 ∨ (n : Int) < q
  · exact walk_out a n c q y z w hn hout
  · obtain ⟨k, rfl⟩ : ∃ k : Nat, q = k := ⟨q.toNat, by omega⟩
    by_cases h0 : n = 0
    · subst h0
      obtain rfl : k = 0 := by omega
      exact comp_nil a c y z w
    · rcases h with h | ⟨b, off, zs, rfl, hr, hb⟩
      · exact absurd h h0
      · exact comp b off n c k zs y z w (by omega) (by omega) (by omega) hr hb

set_option maxRecDepth 100000 in
theorem lifted (os : Os) (started : os.Started) (H : Type) (enc : TypeId × Value → H) :
    ReturnsInHanded {} Try.checked os 4 .any (Rows.fnCrashesComplementAndCutSpec.pre6 enc Try.prog Try.f4 Rows.fnCrashesComplementAndCutRow.domain false) (Rows.fnCrashesComplementAndCutSpec.post enc Try.prog Try.f4 false true false false) := by
  refine returnsInHanded_of_change (C := Try.checked) own started (by kernel_rfl) Try.func4
    (ChangeSpec.witness6 (enc := enc) (C := Try.checked) false ⟨#[], #[.slice none 0 0, .int .i64 0, .int .i64 0, .int .i64 0], []⟩ 8 (by kernel_rfl) (by kernel_rfl) (by kernel_rfl) (by kernel_rfl)) ?_
  intro W base args ds gs before hval0 hW hcnd _
  have hval : ∀ (j : Nat) t v, Try.f4.params[j]? = some t → args[j]? = some v → Value.okWide Try.prog W .any base t v := hval0
  have hW' := hW
  obtain ⟨p, q, hA0, hV, rfl, hfz, hnd⟩ := hW
  have hA : DataW.TrodAll enc Try.prog W 0 (fun _ => true) true Try.f4.params.toList args.toList ds p := hA0
  rw [Try.params4] at hA hval
  obtain ⟨v0, vs0, d0, ds0, p0, q0, hargs, rfl, rfl, h0, r0⟩ := trodAll_cons hA
  obtain ⟨v1, vs1, d1, ds1, p1, q1, rfl, rfl, rfl, h1, r1⟩ := trodAll_cons r0
  obtain ⟨v2, vs2, d2, ds2, p2, q2, rfl, rfl, rfl, h2, r2⟩ := trodAll_cons r1
  obtain ⟨v3, vs3, d3, ds3, p3, q3, rfl, rfl, rfl, h3, r3⟩ := trodAll_cons r2
  obtain ⟨rfl, rfl, rfl⟩ := trodAll_nil r3
  obtain rfl : args = #[v0, v1, v2, v3] := by cases args; simp_all
  obtain ⟨rfl, rfl⟩ := trodVars_none hV
  obtain ⟨a0, len0, cap0, rfl⟩ := okWide_slice Try.underlying22 (hval 0 22 v0 rfl rfl)
  have k0 := h0
  have lt0 : ∀ x ∈ p0, x.block < W.heap.size := by obtain ⟨m, hm⟩ := k0; exact DataW.trod_lt m _ _ _ hm
  obtain ⟨hrun, hlm⟩ : (len0 = 0 ∨ ∃ b off zs, a0 = some ⟨b, off, none⟩ ∧ Run W b off len0 zs ∧ b < W.heap.size) ∧ len0 ≤ maxLen := by
    obtain ⟨fuel, hf⟩ := h0
    exact open_run (by simpa [Value.cells] using hf)
  obtain ⟨a1, rfl, rfl, rfl, w1⟩ := open_int Try.underlying3 (hval 1 3 v1 rfl rfl) h1
  obtain ⟨a2, rfl, rfl, rfl, w2⟩ := open_int Try.underlying3 (hval 2 3 v2 rfl rfl) h2
  obtain ⟨a3, rfl, rfl, rfl, w3⟩ := open_int Try.underlying3 (hval 3 3 v3 rfl rfl) h3
  clear hA0 hval0
  refine (walk a0 len0 cap0 a1 a2 a3 W hrun hlm).mono fun e W' ⟨he, bel⟩ => ?_
  subst he
  exact ⟨_, rfl, _, _, _, [], _, [], hW', trodAll_mk1 (shut_bool Try.underlying4 _), (trodAll_cons_mk (Below.trod laidOut (by kernel_rfl) (of_decide_eq_true (by kernel_rfl)) k0 bel lt0) (trodAll_cons_mk (shut_int Try.underlying3 w1) (trodAll_cons_mk (shut_int Try.underlying3 w2) (trodAll_cons_mk (shut_int Try.underlying3 w3) trodAll_mk0)))), rfl, bel.frame _, fun h => by cases h⟩

theorem over : Rows.fnCrashesComplementAndCutRow.holds Try.pinned (OpenSpec.ofChange Rows.fnCrashesComplementAndCutSpec) :=
  OpenClaim.holds_of_wide 4 Try.f4 rfl rfl rfl rfl rfl rfl rfl ⟨rfl, rfl, rfl, rfl, rfl⟩ rfl rfl rfl rfl rfl (by kernel_rfl) Try.func4 (by kernel_rfl)
    (of_decide_eq_true (by kernel_rfl)) (by unfold Func.isWrapper; first | (rw [if_pos (by decide +kernel)]; kernel_rfl) | (rw [if_neg (by decide +kernel)]; exact ⟨rfl, rfl⟩))
    (fun os started H enc _ => lifted os started H enc)

/-- THE STATEMENT -/
theorem proved : Rows.FnCrashesComplementAndCutSaid :=
  over
#print axioms proved
end Go.Proofs.Qxb6631332a.fnCrashesComplementAndCut
