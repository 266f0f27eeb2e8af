import Derived.Test.Qxb6632298aBase
namespace Go.Proofs.Qxb6632298a
open Go.RowKit
set_option linter.unusedVariables false

/-! ### Powers of two -/
def pw : Nat → Int
  | 0 => 1
  | n + 1 => pw n * 2
theorem pw_pos : ∀ n, 1 ≤ pw n
  | 0 => by simp [pw]
  | n + 1 => by have := pw_pos n; simp only [pw]; omega
theorem pw_big : ∀ n, 9223372036854775808 ≤ pw (63 + n)
  | 0 => by decide +kernel
  | n + 1 => by
    have := pw_big n
    show _ ≤ pw (63 + n) * 2
    omega
theorem pw_low {j : Nat} (h : pw j ≤ 9223372036854775807) : j < 63 := by
  rcases Nat.lt_or_ge j 63 with h1 | h1
  · exact h1
  · obtain ⟨n, rfl⟩ : ∃ n, j = 63 + n := ⟨j - 63, by omega⟩
    have := pw_big n
    omega

/-- What the pause is, of a base above 0. -/
structure Shape (base u : Int) (n j : Nat) : Prop where
  le : j ≤ n
  eq : u = base * pw j
  full : j < n → 4611686018427387903 ≤ u
  prev : 0 < j → base * pw (j - 1) < 4611686018427387903
theorem shape {base : Int} (h0 : 0 < base) : ∀ n, ∃ j, Shape base (bo base n) n j
  | 0 => ⟨0, Nat.le_refl _, by simp [bo, pw], fun h => by omega, fun h => by omega⟩
  | n + 1 => by
    obtain ⟨j, s1, s2, s3, s4⟩ := shape h0 n
    show ∃ j, Shape base (dbl (bo base n)) (n + 1) j
    by_cases h : bo base n < 4611686018427387903
    · have hj : j = n := by
        rcases Nat.lt_or_eq_of_le s1 with h1 | h1
        · have := s3 h1; omega
        · exact h1
      subst hj
      have hp := pw_pos j
      have hpos : 0 < base * pw j := Int.mul_pos h0 (by omega)
      rw [dbl_go h]
      rw [s2] at h ⊢
      have hw : wrap64 (base * pw j * 2) = base * pw j * 2 := by unfold wrap64; omega
      rw [hw]
      exact ⟨j + 1, Nat.le_refl _, by simp only [pw]; rw [Int.mul_assoc], fun h => by omega, fun _ => h⟩
    · rw [dbl_stop h]
      exact ⟨j, by omega, s2, fun _ => by omega, s4⟩

theorem shape_div {base u : Int} {n j : Nat} (h0 : 0 < base) (s : Shape base u n j) : u % base = 0 ∧ u / base = pw j ∧ 0 < u := by
  have hp := pw_pos j
  rw [s.eq]
  exact ⟨Int.mul_emod_right _ _, Int.mul_ediv_cancel_left _ (by omega), Int.mul_pos h0 (by omega)⟩
theorem shape_half {base u : Int} {n j : Nat} (h0 : 0 < base) (s : Shape base u n j) (hj : 0 < j) : u / 2 < 4611686018427387903 := by
  have := s.prev hj
  obtain ⟨i, rfl⟩ : ∃ i, j = i + 1 := ⟨j - 1, by omega⟩
  have e : u = base * pw i * 2 := by rw [s.eq]; simp only [pw]; rw [Int.mul_assoc]
  simp at this
  rw [e]
  omega

theorem and_fin : ∀ t : Fin 63, bits BinOp.and IntKind.i64 (pw t) (pw t - 1) = 0 := by decide +kernel
theorem and_pw {t : Nat} (h : t < 63) : bits BinOp.and IntKind.i64 (pw t) (pw t - 1) = 0 := and_fin ⟨t, h⟩
theorem pw_half {t i : Nat} (h : i < t) : pw (t - (i + 1)) = pw (t - i) / 2 ∧ 1 < pw (t - i) := by
  obtain ⟨r, hr⟩ : ∃ r, t - i = r + 1 := ⟨t - i - 1, by omega⟩
  have e : t - (i + 1) = r := by omega
  have := pw_pos r
  rw [e, hr]
  simp only [pw]
  omega
theorem pw_mono {t i : Nat} : pw (t - i) ≤ pw t := by
  have : ∀ a b : Nat, pw a ≤ pw (a + b) := fun a b => by
    induction b with
    | zero => exact Int.le_refl _
    | succ b ih => have := pw_pos (a + b); show _ ≤ pw (a + b) * 2; omega
  by_cases h : i ≤ t
  · have := this (t - i) i
    rwa [show t - i + i = t by omega] at this
  · have := this (t - i) t
    rwa [show t - i + t = t by omega] at this

set_option maxRecDepth 100000 in
set_option maxHeartbeats 4000000 in
theorem limit (ma base m k : Int) (j : Nat) (w : World) (hb : In64 base) (hk : In64 k) (h0 : 0 < base) :
    Calls Try.prog 3 #[.int .i64 ma, .int .i64 base, .int .i64 m, .float .f64 j, .int .i64 k] w fun e w' => e = .returned (.bool true) ∧ Below w.heap.size w w' := by
  obtain ⟨u, U⟩ : ∃ u, Hid (bo base (stp k) = u) := ⟨_, rfl⟩
  obtain ⟨t, sh⟩ := shape h0 (stp k)
  rw [U.out] at sh
  obtain ⟨u1, u2⟩ : In64 u := by rw [← U.out]; exact bo_in hb _
  have Z2 : Hid (∀ w, Calls Try.prog 5 #[.int .i64 ma, .int .i64 base, .int .i64 0, .float .f64 j, .int .i64 k] w fun e w' => e = .returned (.int .i64 u) ∧ Below w.heap.size w w') := fun w => by
    have := zzback ma base 0 k j w hk
    rwa [capf_zero, U.out] at this
  have Z4 : Hid (∀ w, Calls Try.prog 5 #[.int .i64 ma, .int .i64 base, .int .i64 m, .float .f64 j, .int .i64 k] w fun e w' => e = .returned (.int .i64 (capf u m)) ∧ Below w.heap.size w w') := fun w => by
    have := zzback ma base m k j w hk
    rwa [U.out] at this
  obtain ⟨e1, e2, e3⟩ := shape_div h0 sh
  obtain ⟨hb1, hb2⟩ := hb
  obtain ⟨hk1, hk2⟩ := hk
  have p1 := pw_pos t
  have p2 : pw t ≤ 9223372036854775807 := by
    have h3 : pw t * 1 ≤ pw t * base := Int.mul_le_mul_of_nonneg_left (by omega) (by omega)
    have h4 : u = pw t * base := by rw [sh.eq, Int.mul_comm]
    omega
  have t63 := pw_low p2
  have zb := and_pw t63
  have d1 : decide (base ≤ 0) = false := by simp; omega
  have d2 : decide (u ≤ 0) = false := by simp; omega
  have s1 := sh.le
  have s2 := sh.full
  have s3 : 0 < t → u / 2 < 4611686018427387903 := shape_half h0 sh
  have S1 : Hid _ := s1
  have S2 : Hid _ := s2
  have S3 : Hid _ := s3
  clear sh U s1 s2 s3
  go_enter Try.func3, Try.ntmps3
  go_wp2_with fail
  refine Calls.mono (Z2.out _) ?_
  rintro e w1 ⟨rfl, b1⟩
  go_wp2_with fail
  refine Calls.mono (Z4.out _) ?_
  rintro e w2 ⟨rfl, hbb⟩
  have b2 := b1.trans (hbb.mono b1.size)
  clear b1 hbb
  go_wp2
  rw [e2]
  clear e2 e1 zb
  go_loop [13, 14] (fun v c => ∃ (i : Nat) (q : Int), i ≤ t ∧ v = .int .i64 q ∧ c = .int .i64 i ∧ Hid (pw (t - i) = q)) (fun v _ => (intOf v).toNat)
  case atStart => exact ⟨0, pw t, Nat.zero_le _, rfl, rfl, rfl⟩
  case round =>
  obtain ⟨i, q, hi, rfl, rfl, Q⟩ := hrel
  have q1 : 1 ≤ q := by rw [← Q.out]; exact pw_pos _
  have q2 : q ≤ 9223372036854775807 := by rw [← Q.out]; exact Int.le_trans pw_mono p2
  by_cases hlt : i < t
  · obtain ⟨h1, h2⟩ := pw_half hlt
    rw [Q.out] at h1 h2
    have H1 : Hid _ := h1
    clear h1
    go_wp2
    go_round
    case rel => exact ⟨i + 1, q / 2, by omega, rfl, by go_num, H1.out⟩
    case measure => simp [intOf]; omega
  have hit : t = i := by omega
  subst hit
  have hq : q = 1 := by rw [← Q.out, Nat.sub_self]; rfl
  subst hq
  clear q1 q2 Q hi hlt
  by_cases hk : 1 < k
  · have tN : (t : Int) ≤ k - 1 := by have := S1.out; unfold stp at this; omega
    have fu : (t : Int) < k - 1 → 4611686018427387903 ≤ u := fun h => S2.out (by unfold stp; omega)
    have s3 := S3.out
    clear S1 S2 S3
    by_cases c1 : (t : Int) < k - 1
    · have f1 := fu c1
      by_cases c2 : 0 < t
      · have f2 := s3 c2
        clear fu s3
        go_wp2_with fail
        refine (cap6 u m _).mono ?_
        rintro e w7 ⟨rfl, rfl⟩
        go_wp2
        go_ret
        exact ⟨rfl, b2⟩
      · clear fu s3
        go_wp2_with fail
        refine (cap6 u m _).mono ?_
        rintro e w7 ⟨rfl, rfl⟩
        go_wp2
        go_ret
        exact ⟨rfl, b2⟩
    · by_cases c2 : 0 < t
      · have f2 := s3 c2
        clear fu s3
        go_wp2_with fail
        refine (cap6 u m _).mono ?_
        rintro e w7 ⟨rfl, rfl⟩
        go_wp2
        go_ret
        exact ⟨rfl, b2⟩
      · exfalso
        omega
  · have t0 : t = 0 := by have := S1.out; unfold stp at this; omega
    clear S1 S2 S3
    subst t0
    go_wp2_with fail
    refine (cap6 u m _).mono ?_
    rintro e w7 ⟨rfl, rfl⟩
    go_wp2
    go_ret
    exact ⟨rfl, b2⟩
end Go.Proofs.Qxb6632298a
