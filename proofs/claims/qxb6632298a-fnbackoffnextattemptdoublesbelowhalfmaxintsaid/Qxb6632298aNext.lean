import Derived.Test.Qxb6632298aBase
namespace Go.Proofs.Qxb6632298a
open Go.RowKit
set_option linter.unusedVariables false

theorem stp_low {k : Int} (h : k < 1) : stp k = 0 ∧ stp (k + 1) = 0 := by unfold stp; omega
theorem stp_succ {k : Int} (h : 1 ≤ k) : stp (k + 1) = stp k + 1 := by unfold stp; omega
theorem next_go {base k : Int} (h : 1 ≤ k) (hu : bo base (stp k) < 4611686018427387903) : bo base (stp (k + 1)) = wrap64 (bo base (stp k) * 2) := by rw [stp_succ h]; exact dbl_go hu
theorem next_stop {base k : Int} (h : 1 ≤ k) (hu : ¬ bo base (stp k) < 4611686018427387903) : bo base (stp (k + 1)) = bo base (stp k) := by rw [stp_succ h]; exact dbl_stop hu
theorem next_low {base k : Int} (h : k < 1) : bo base (stp (k + 1)) = bo base (stp k) := by rw [(stp_low h).1, (stp_low h).2]

/-! ### The five calls and what follows, with the pauses as letters -/
set_option maxRecDepth 100000 in
set_option maxHeartbeats 4000000 in
theorem next (ma base m k : Int) (j : Nat) (w : World) (hb : In64 base) (hk : In64 k) (hm : k ≠ 9223372036854775807) (hlo : ¬ (base ≤ 0 ∧ 65536 < k)) :
    Calls Try.prog 4 #[.int .i64 ma, .int .i64 base, .int .i64 m, .float .f64 j, .int .i64 k] w fun e w' => e = .returned (.bool true) ∧ Below w.heap.size w w' := by
  obtain ⟨k1, k2⟩ := hk
  have k3 : k < 9223372036854775807 := by omega
  have Z1 : Hid (∀ w, Calls Try.prog 5 #[.int .i64 ma, .int .i64 base, .int .i64 0, .float .f64 j, .int .i64 1] w fun e w' => e = .returned (.int .i64 base) ∧ Below w.heap.size w w') := fun w => by
    have := zzback ma base 0 1 j w ⟨by omega, by omega⟩
    rwa [capf_zero] at this
  obtain ⟨u0, U0⟩ : ∃ u0, Hid (bo base (stp k) = u0) := ⟨_, rfl⟩
  obtain ⟨u1, U1⟩ : ∃ u1, Hid (bo base (stp (k + 1)) = u1) := ⟨_, rfl⟩
  have Z2 : Hid (∀ w, Calls Try.prog 5 #[.int .i64 ma, .int .i64 base, .int .i64 0, .float .f64 j, .int .i64 k] w fun e w' => e = .returned (.int .i64 u0) ∧ Below w.heap.size w w') := fun w => by
    have := zzback ma base 0 k j w ⟨by omega, by omega⟩
    rwa [capf_zero, U0.out] at this
  have Z3 : Hid (∀ w, Calls Try.prog 5 #[.int .i64 ma, .int .i64 base, .int .i64 0, .float .f64 j, .int .i64 (k + 1)] w fun e w' => e = .returned (.int .i64 u1) ∧ Below w.heap.size w w') := fun w => by
    have := zzback ma base 0 (k + 1) j w ⟨by omega, by omega⟩
    rwa [capf_zero, U1.out] at this
  have Z4 : Hid (∀ w, Calls Try.prog 5 #[.int .i64 ma, .int .i64 base, .int .i64 m, .float .f64 j, .int .i64 k] w fun e w' => e = .returned (.int .i64 (capf u0 m)) ∧ Below w.heap.size w w') := fun w => by
    have := zzback ma base m k j w ⟨by omega, by omega⟩
    rwa [U0.out] at this
  have Z5 : Hid (∀ w, Calls Try.prog 5 #[.int .i64 ma, .int .i64 base, .int .i64 m, .float .f64 j, .int .i64 (k + 1)] w fun e w' => e = .returned (.int .i64 (capf u1 m)) ∧ Below w.heap.size w w') := fun w => by
    have := zzback ma base m (k + 1) j w ⟨by omega, by omega⟩
    rwa [U1.out] at this
  have hcase : (1 ≤ k ∧ u0 < 4611686018427387903 ∧ Hid (u1 = wrap64 (u0 * 2))) ∨ (1 ≤ k ∧ ¬ u0 < 4611686018427387903 ∧ Hid (u1 = u0)) ∨ (k < 1 ∧ Hid (u1 = u0)) := by
    by_cases h1 : 1 ≤ k
    · by_cases h2 : u0 < 4611686018427387903
      · exact .inl ⟨h1, h2, by show u1 = _; rw [← U1.out, ← U0.out]; exact next_go h1 (by rw [U0.out]; exact h2)⟩
      · exact .inr (.inl ⟨h1, h2, by show u1 = _; rw [← U1.out, ← U0.out]; exact next_stop h1 (by rw [U0.out]; exact h2)⟩)
    · exact .inr (.inr ⟨by omega, by show u1 = _; rw [← U1.out, ← U0.out]; exact next_low (by omega)⟩)
  have hkm : (k == 9223372036854775807) = false := by simpa using hm
  clear U0 U1 hm
  have hg : ¬ base ≤ 0 ∨ (base ≤ 0 ∧ ¬ 65536 < k) := by omega
  clear hlo
  rcases hcase with ⟨c1, c2, C⟩ | ⟨c1, c2, C⟩ | ⟨c1, C⟩
  all_goals
    rcases hg with hg | ⟨hg, hg'⟩
    all_goals
      go_enter Try.func4, Try.ntmps4
      go_wp2_with fail
      refine Calls.mono (Z1.out _) ?_
      rintro e w1 ⟨rfl, b1⟩
      go_wp2_with fail
      refine Calls.mono (Z2.out _) ?_
      rintro e w2 ⟨rfl, hb2⟩
      have b2 := b1.trans (hb2.mono b1.size)
      clear b1 hb2
      go_wp2_with fail
      refine Calls.mono (Z3.out _) ?_
      rintro e w3 ⟨rfl, hb3⟩
      have b3 := b2.trans (hb3.mono b2.size)
      clear b2 hb3
      go_wp2_with fail
      refine Calls.mono (Z4.out _) ?_
      rintro e w4 ⟨rfl, hb4⟩
      have b4 := b3.trans (hb4.mono b3.size)
      clear b3 hb4
      go_wp2_with fail
      refine Calls.mono (Z5.out _) ?_
      rintro e w5 ⟨rfl, hb5⟩
      have b5 := b4.trans (hb5.mono b4.size)
      have c := C.out
      clear b4 hb5 C
      subst c
      go_wp2_with fail
      refine (cap6 _ m _).mono ?_
      rintro e w6 ⟨rfl, rfl⟩
      go_wp2_with fail
      refine (cap6 _ m _).mono ?_
      rintro e w7 ⟨rfl, rfl⟩
      go_wp2
      go_ret
      exact ⟨rfl, b5⟩
end Go.Proofs.Qxb6632298a
