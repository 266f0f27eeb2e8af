import Derived.Test.Qxb6632298aRows
import Derived.WalkKit
import Derived.WalkSpells
import Derived.WalkLawsBesides
namespace Go.Proofs.Qxb6632298a
open Go.RowKit
set_option linter.unusedVariables false

theorem ret_int {k : IntKind} {a b : Int} (h : a = b) : Ending.returned (.int k a) = .returned (.int k b) := by rw [h]

/-! ### The pause after n doublings; it stands still once it has reached half the greatest number -/
def dbl (d : Int) : Int := if d < 4611686018427387903 then wrap64 (d * 2) else d
def bo (base : Int) : Nat → Int
  | 0 => base
  | n + 1 => dbl (bo base n)
theorem dbl_stop {d : Int} (h : ¬ d < 4611686018427387903) : dbl d = d := by unfold dbl; rw [if_neg h]
theorem dbl_go {d : Int} (h : d < 4611686018427387903) : dbl d = wrap64 (d * 2) := by unfold dbl; rw [if_pos h]
theorem bo_stop {base : Int} {n : Nat} (h : ¬ bo base n < 4611686018427387903) : ∀ m, bo base (n + m) = bo base n
  | 0 => rfl
  | m + 1 => by
    show dbl (bo base (n + m)) = _
    rw [bo_stop h m, dbl_stop h]
def In64 (x : Int) : Prop := -9223372036854775808 ≤ x ∧ x ≤ 9223372036854775807
theorem wrap_in (x : Int) : In64 (wrap64 x) := by unfold In64 wrap64; omega
theorem bo_in {base : Int} (hb : In64 base) : ∀ n, In64 (bo base n)
  | 0 => hb
  | n + 1 => by
    show In64 (dbl (bo base n))
    unfold dbl
    split
    · exact wrap_in _
    · exact bo_in hb n
/-- How many doublings attempt k asks for. -/
def stp (k : Int) : Nat := (k - 1).toNat
def capf (d m : Int) : Int := if 0 < m ∧ m < d then m else d

theorem cap6 (d m : Int) (w : World) : Calls Try.prog 6 #[.int .i64 d, .int .i64 m] w fun e w' => e = .returned (.int .i64 (capf d m)) ∧ w' = w := by
  unfold capf
  by_cases h1 : 0 < m
  · by_cases h2 : m < d
    · rw [if_pos ⟨h1, h2⟩]
      go_enter Try.func6, Try.ntmps6
      go_wp2
      go_ret
      exact ⟨rfl, rfl⟩
    · rw [if_neg (fun h => h2 h.2)]
      go_enter Try.func6, Try.ntmps6
      go_wp2
      go_ret
      exact ⟨rfl, rfl⟩
  · rw [if_neg (fun h => h1 h.1)]
    go_enter Try.func6, Try.ntmps6
    go_wp2
    go_ret
    exact ⟨rfl, rfl⟩

theorem bo_end {base k x : Int} {n : Nat} (hx : bo base n = x) (hn : n = 0 ∨ (n : Int) + 1 ≤ k) (hs : ¬ ((n : Int) + 1 < k ∧ x < 4611686018427387903)) : bo base (stp k) = x := by
  unfold stp
  by_cases h1 : (n : Int) + 1 < k
  · have h2 : ¬ bo base n < 4611686018427387903 := by rw [hx]; intro h; exact hs ⟨h1, h⟩
    obtain ⟨m, hm⟩ : ∃ m, (k - 1).toNat = n + m := ⟨(k - 1).toNat - n, by omega⟩
    rw [hm, bo_stop h2 m, hx]
  · have : (k - 1).toNat = n := by omega
    rw [this, hx]

set_option maxHeartbeats 1000000 in
theorem backoff (ma base m k : Int) (j : Nat) (w : World) (hk : In64 k) :
    Calls Try.prog 7 #[.agg #[.int .i64 ma, .int .i64 base, .int .i64 m, .float .f64 j], .int .i64 k] w fun e w' => e = .returned (.int .i64 (capf (bo base (stp k)) m)) ∧ Below w.heap.size w w' := by
  obtain ⟨k1, k2⟩ := hk
  have B : Hid (∀ o, Below w.heap.size w (w.alloc o)) := fun o => (Below.refl _ _).alloc (Nat.le_refl _) o
  go_enter Try.func7, Try.ntmps7
  go_wp2
  go_loop [5, 6] (fun d i => ∃ (n : Nat) (x : Int), i = .int .i64 ((n : Int) + 1) ∧ d = .int .i64 x ∧ Hid (bo base n = x) ∧ (n = 0 ∨ (n : Int) + 1 ≤ k)) (fun _ i => (k - intOf i).toNat)
  case atStart => exact ⟨0, base, rfl, rfl, rfl, .inl rfl⟩
  case round =>
    obtain ⟨n, x, rfl, rfl, HX, hn⟩ := hrel
    by_cases hgo : (n : Int) + 1 < k ∧ x < 4611686018427387903
    · obtain ⟨g1, g2⟩ := hgo
      have D : Hid (bo base (n + 1) = wrap64 (x * 2)) := by show dbl (bo base n) = _; rw [HX.out, dbl_go g2]
      clear hn
      go_wp2
      go_round
      case rel => exact ⟨n + 1, wrap64 (x * 2), by go_num, rfl, D, .inr (by omega)⟩
      case measure => simp [intOf]; omega
    · have E := bo_end HX.out hn hgo
      have E' : Hid _ := E
      have hc : ¬ (n : Int) + 1 < k ∨ ((n : Int) + 1 < k ∧ ¬ x < 4611686018427387903) := by
        by_cases h : (n : Int) + 1 < k
        · exact .inr ⟨h, fun h2 => hgo ⟨h, h2⟩⟩
        · exact .inl h
      clear E HX hn hgo
      rcases hc with hc | ⟨hc, hd⟩
      all_goals
        by_cases h1 : 0 < m
        · by_cases h2 : m < x
          · go_wp2
            go_ret
            exact ⟨ret_int (by rw [E'.out]; unfold capf; rw [if_pos ⟨h1, h2⟩]), B.out _⟩
          · go_wp2
            go_ret
            exact ⟨ret_int (by rw [E'.out]; unfold capf; rw [if_neg (by omega)]), B.out _⟩
        · go_wp2
          go_ret
          exact ⟨ret_int (by rw [E'.out]; unfold capf; rw [if_neg (by omega)]), B.out _⟩

theorem zzback (ma base m k : Int) (j : Nat) (w : World) (hk : In64 k) :
    Calls Try.prog 5 #[.int .i64 ma, .int .i64 base, .int .i64 m, .float .f64 j, .int .i64 k] w fun e w' => e = .returned (.int .i64 (capf (bo base (stp k)) m)) ∧ Below w.heap.size w w' := by
  go_enter Try.func5, Try.ntmps5
  go_wp2_with fail
  refine (backoff ma base m k j _ hk).mono ?_
  rintro e w' ⟨rfl, hb⟩
  go_wp2
  go_ret
  exact ⟨rfl, hb⟩
theorem capf_zero (d : Int) : capf d 0 = d := by unfold capf; rw [if_neg (by omega)]
end Go.Proofs.Qxb6632298a
