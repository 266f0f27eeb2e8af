/- The proof of Rows.FnIsValidNameEphemeralTwinSaid, in the frame of the given shell. -/
import Derived.Test.Qxb6632262aRows
import Derived.Test.Qxb6632262aNames
import Derived.WalkKit
import Derived.ProofKit
import Derived.OpenShut
import Derived.ShutString
namespace Go.Proofs.Qxb6632262a.fnIsValidNameEphemeralTwin
open Go.ChangeShapes Go.WideShapes Go.ChangeAt Go.RowKit
open Go.ChangeMaps (open_string shut_string)
set_option linter.unusedVariables false      -- a walk need not use every 'w<i>' (that an integer argument fits its kind)

theorem own : ownKnob Try.prog.godebug = none := by kernel_rfl

/-! ### The walk -/
theorem zzb5 (s : ByteArray) (w : World) (hs : s.size ≤ maxLen) : Calls Try.prog 5 #[.string s] w fun e w' => e = .returned (.bool (decide (s.size ≤ 1048576))) ∧ w' = w := by
  unfold maxLen at hs
  by_cases h : s.size ≤ 1048576
  · go_enter Try.func5, Try.ntmps5
    go_wp2
    go_ret
    exact ⟨ret_bool (by simp [h]), rfl⟩
  · have h' : 1048576 < s.size := by omega
    go_enter Try.func5, Try.ntmps5
    go_wp2
    go_ret
    exact ⟨ret_bool (by simp [h']), rfl⟩

theorem grown_drawn {w : World} (n : Nat) : Grown w (w.drewN n) := by
  induction n with
  | zero => exact Grown.refl _
  | succ n ih => exact Grown.drew ih

set_option maxHeartbeats 1000000 in
theorem walk (a0 : ByteArray) (w0 : a0.size ≤ maxLen) (w : World) :
    Calls Try.prog 3 #[.string a0] w fun e w' => e = .returned (.bool true) ∧ Grown w w' := by
  have w0' := w0
  unfold maxLen at w0'
  by_cases h : a0.size ≤ 1048576
  · have c := zzb5 a0 w w0
    rw [show decide (a0.size ≤ 1048576) = true by simpa using h] at c
    have C : Hid _ := c
    clear c
    have hsum : a0.size + 10 ≤ 2000000 := by omega
    have hz : (a0 ++ ⟨#[35, 101, 112, 104, 101, 109, 101, 114, 97, 108]⟩ : ByteArray).size ≤ 2000000 := by rw [Lib.size_eq, app_data, List.length_append, ← Lib.size_eq]; exact hsum
    have TW : Hid _ := twin a0
    have SA : Hid _ := strip_app a0
    have add : ∀ w, (Op.stringOp .add a0 ⟨#[35, 101, 112, 104, 101, 109, 101, 114, 97, 108]⟩).run Try.prog w = .ok (.string (a0 ++ ⟨#[35, 101, 112, 104, 101, 109, 101, 114, 97, 108]⟩)) w := fun w => run_string_add_sum w a0 _ (by show a0.size + 10 ≤ _; omega)
    go_enter Try.func3, Try.ntmps3
    go_wp2_with fail
    refine Calls.mono C.out ?_
    rintro e w' ⟨rfl, rfl⟩
    clear C
    go_wp2_with fail
    refine (stripEph a0 _ (by omega)).mono ?_
    rintro e w1 ⟨rfl, n1, rfl⟩
    go_wp2_with fail
    refine (valid a0 _ (by omega)).mono ?_
    rintro e w2 ⟨rfl, rfl⟩
    go_wp2_with fail
    refine (valid _ _ hz).mono ?_
    rintro e w3 ⟨rfl, rfl⟩
    rw [SA.out]
    have sz := strip_size a0
    have tw := TW.out
    clear hz add SA TW
    cases hd : doc (strip a0)
    · rw [hd] at tw
      simp only [Bool.false_and] at tw
      go_wp2_with fail
      refine (docName (strip a0) _ (by omega)).mono ?_
      rintro e w4 ⟨rfl, rfl⟩
      rw [hd]
      go_wp2
      go_ret
      exact ⟨rfl, grown_drawn _⟩
    · cases hh : hasS a0
      all_goals
        rw [hd, hh] at tw
        simp only [Bool.true_and, Bool.not_true, Bool.not_false] at tw
        go_wp2_with fail
        refine (docName (strip a0) _ (by omega)).mono ?_
        rintro e w4 ⟨rfl, rfl⟩
        rw [hd]
        go_wp2_with fail
        refine (hasEph a0 _ (by omega)).mono ?_
        rintro e w5 ⟨rfl, n2, rfl⟩
        rw [hh]
        go_wp2
        go_ret
        exact ⟨rfl, grown_drawn _⟩
  · have c := zzb5 a0 w w0
    rw [show decide (a0.size ≤ 1048576) = false by simpa using h] at c
    have C : Hid _ := c
    clear c
    go_enter Try.func3, Try.ntmps3
    go_wp2_with fail
    refine Calls.mono C.out ?_
    rintro e w' ⟨rfl, rfl⟩
    go_wp2
    go_ret
    exact ⟨rfl, Grown.refl _⟩

/-! ### The row's step -/
set_option maxRecDepth 100000 in
theorem lifted (os : Os) (started : os.Started) (H : Type) (enc : TypeId × Value → H) :
    ReturnsInHanded {} Try.checked os 3 .any (Rows.fnIsValidNameEphemeralTwinSpec.pre6 enc Try.prog Try.f3 Rows.fnIsValidNameEphemeralTwinRow.domain false) (Rows.fnIsValidNameEphemeralTwinSpec.post enc Try.prog Try.f3 false true false false) := by
  refine returnsInHanded_of_change (C := Try.checked) own started (by kernel_rfl) Try.func3
    (ChangeSpec.witness6 (enc := enc) (C := Try.checked) false ⟨#[], #[.string ByteArray.empty], []⟩ 8 (by kernel_rfl) (by kernel_rfl) (by kernel_rfl) (by kernel_rfl)) ?_
  intro W base args ds gs before hval0 hW hcnd _
  have hval : ∀ (j : Nat) t v, Try.f3.params[j]? = some t → args[j]? = some v → Value.okWide Try.prog W .any base t v := hval0
  have hW' := hW
  obtain ⟨p, q, hA0, hV, rfl, hfz, hnd⟩ := hW
  have hA : DataW.TrodAll enc Try.prog W 0 (fun _ => true) true Try.f3.params.toList args.toList ds p := hA0
  rw [Try.params3] at hA hval
  obtain ⟨v0, vs0, d0, ds0, p0, q0, hargs, rfl, rfl, h0, r0⟩ := trodAll_cons hA
  obtain ⟨rfl, rfl, rfl⟩ := trodAll_nil r0
  obtain rfl : args = #[v0] := by cases args; simp_all
  obtain ⟨rfl, rfl⟩ := trodVars_none hV
  obtain ⟨a0, rfl, rfl, rfl, w0⟩ := open_string Try.underlying9 (hval 0 9 v0 rfl rfl) h0
  clear hA0 hval0
  simp only [List.append_nil] at hW'
  refine (walk a0 w0 W).mono fun e W' ⟨he, hg⟩ => ?_
  subst he
  exact ⟨_, rfl, post_of_same (pa := []) (pv := []) hW' (fun _ _ _ => (trodAll_cons_mk (shut_bool Try.underlying4 _) trodAll_mk0)) (fun sp _ => (trodAll_cons_mk (shut_string Try.underlying9 w0) trodAll_mk0)) (fun _ _ => rfl) rfl
    (hg.frame _) hg.2.1 (ok_one (by kernel_rfl) rfl (okWide_bool_mk Try.underlying4 _))⟩

theorem over : Rows.fnIsValidNameEphemeralTwinRow.holds Try.pinned (OpenSpec.ofChange Rows.fnIsValidNameEphemeralTwinSpec) :=
  OpenClaim.holds_of_wide 3 Try.f3 rfl rfl rfl rfl rfl rfl rfl ⟨rfl, rfl, rfl, rfl, rfl⟩ rfl rfl rfl rfl rfl (by kernel_rfl) Try.func3 (by kernel_rfl)
    (of_decide_eq_true (by kernel_rfl)) (by unfold Func.isWrapper; first | (rw [if_pos (by decide +kernel)]; kernel_rfl) | (rw [if_neg (by decide +kernel)]; exact ⟨rfl, rfl⟩))
    (fun os started H enc _ => lifted os started H enc)

/-- THE STATEMENT -/
theorem proved : Rows.FnIsValidNameEphemeralTwinSaid :=
  over
#print axioms proved
end Go.Proofs.Qxb6632262a.fnIsValidNameEphemeralTwin
