import Derived.Test.Qxb6631276aRows
import Derived.WalkKit
import Derived.WalkSpells
import Derived.Deep.QuietTactic
import Derived.BigQuiet
import Derived.Deep.Draws
namespace Go.Proofs.Qxb6631276a
open Go.RowKit
set_option linter.unusedVariables false

/-- A slice of n bytes at 'a' that reads as 'l' in w. -/
structure Byt (w : World) (a : Option Addr) (n : Nat) (l : List Int) : Prop where
  len : l.length = n
  cell : n = 0 ∨ ∃ b off, a = some ⟨b, off, none⟩ ∧ ∀ i, i < n → w.cell? ⟨b, off + i, none⟩ = some (.int .u8 (l.getD i 0))

theorem Byt.same {w w' : World} {a : Option Addr} {n : Nat} {l : List Int} (h : Byt w a n l) (hw : ∀ x v, w.cell? x = some v → w'.cell? x = some v) : Byt w' a n l := by
  refine ⟨h.len, ?_⟩
  rcases h.cell with h0 | ⟨b, off, ha, hc⟩
  · exact .inl h0
  · exact .inr ⟨b, off, ha, fun i hi => hw _ _ (hc i hi)⟩

theorem ret_bool {a b : Bool} (h : a = b) : Ending.returned (.bool a) = .returned (.bool b) := by rw [h]
theorem ret_int {k : IntKind} {a b : Int} (h : a = b) : Ending.returned (.int k a) = .returned (.int k b) := by rw [h]

theorem take_eq_succ {l l' : List Int} {k : Nat} (h : l.take k = l'.take k) (h1 : k < l.length) (h2 : k < l'.length) (he : (l[k] != l'[k]) = false) : l.take (k + 1) = l'.take (k + 1) := by
  rw [List.take_succ_eq_append_getElem h1, List.take_succ_eq_append_getElem h2, h]
  simp at he
  rw [he]
theorem ne_at {l l' : List Int} {k : Nat} (h1 : k < l.length) (h2 : k < l'.length) (he : (l[k] != l'[k]) = true) : false = decide (l = l') := by
  symm
  rw [decide_eq_false_iff_not]
  intro h
  subst h
  simp at he

/-! ### eqBytes -/
set_option maxHeartbeats 400000 in
theorem eqb_pos (b o b' o' c c' n : Nat) (l l' : List Int) (w : World) (hn : n ≤ maxLen) (hl : l.length = n) (hl' : l'.length = n)
    (hc : ∀ i, i < n → w.cell? ⟨b, o + i, none⟩ = some (.int .u8 (l.getD i 0))) (hc' : ∀ i, i < n → w.cell? ⟨b', o' + i, none⟩ = some (.int .u8 (l'.getD i 0))) :
    Calls Try.prog 9 #[.slice (some ⟨b, o, none⟩) n c, .slice (some ⟨b', o', none⟩) n c'] w fun e w' => e = .returned (.bool (decide (l = l'))) ∧ ∃ m, w' = w.drewN m := by
  unfold maxLen at hn
  go_enter Try.func9, Try.ntmps9
  go_wp2
  go_loopw [5] (fun i wr => ∃ k m : Nat, k ≤ n ∧ i = .int .i64 k ∧ Hid (l.take k = l'.take k) ∧ wr = w.drewN m) (fun i _ => n - (intOf i).toNat)
  case atStart => exact ⟨0, 0, Nat.zero_le _, rfl, rfl, rfl⟩
  case round =>
    obtain ⟨k, m, hk, rfl, HE, rfl⟩ := hrel
    by_cases hlt : k < n
    · have g := hc k hlt
      have g' := hc' k hlt
      have i1 : (0 : Int) ≤ (k : Int) := by omega
      have i2 : (k : Int) < (n : Int) := by omega
      clear hc hc'
      go_wp2
      go_quiet (fail)
      go_wp2
      · go_ret
        have hne : (l[k] != l'[k]) = true := by assumption
        exact ⟨ret_bool (ne_at (by omega) (by omega) hne), m + nq, by simp⟩
      · go_roundw
        case rel => exact ⟨k + 1, m + nq, by omega, by go_num, take_eq_succ HE.out (by omega) (by omega) (by assumption), rfl⟩
        case measure => simp [intOf]; omega
    · go_wp2
      go_ret
      have hkn : k = n := by omega
      subst hkn
      refine ⟨ret_bool ?_, _, rfl⟩
      have := HE.out
      rw [List.take_of_length_le (by omega), List.take_of_length_le (by omega)] at this
      simp [this]

theorem eqb_nil (a a' : Option Addr) (c c' : Nat) (w : World) :
    Calls Try.prog 9 #[.slice a 0 c, .slice a' 0 c'] w fun e w' => e = .returned (.bool true) ∧ ∃ m, w' = w.drewN m := by
  go_enter Try.func9, Try.ntmps9
  go_wp2
  refine wp_loop_rounds 1 ?_
  rw [rounds_succ]
  go_wp2
  go_ret
  exact ⟨rfl, 0, rfl⟩

theorem eqb_len (a a' : Option Addr) (c c' n n' : Nat) (hne : n ≠ n') (w : World) :
    Calls Try.prog 9 #[.slice a n c, .slice a' n' c'] w fun e w' => e = .returned (.bool false) ∧ ∃ m, w' = w.drewN m := by
  have h : ((n : Int) != (n' : Int)) = true := by simp; omega
  go_enter Try.func9, Try.ntmps9
  go_wp2
  go_ret
  exact ⟨rfl, 0, rfl⟩

theorem eqb (a a' : Option Addr) (c c' n n' : Nat) (l l' : List Int) (w : World) (hn : n ≤ maxLen) (h : Byt w a n l) (h' : Byt w a' n' l') :
    Calls Try.prog 9 #[.slice a n c, .slice a' n' c'] w fun e w' => e = .returned (.bool (decide (l = l'))) ∧ ∃ m, w' = w.drewN m := by
  by_cases hne : n = n'
  · subst hne
    rcases h.cell with h0 | ⟨b, o, rfl, hc⟩
    · subst h0
      have e1 := List.eq_nil_of_length_eq_zero h.len
      have e2 := List.eq_nil_of_length_eq_zero h'.len
      subst e1; subst e2
      exact eqb_nil _ _ _ _ _
    · rcases h'.cell with h0 | ⟨b', o', rfl, hc'⟩
      · subst h0
        have e1 := List.eq_nil_of_length_eq_zero h.len
        have e2 := List.eq_nil_of_length_eq_zero h'.len
        subst e1; subst e2
        exact eqb_nil _ _ _ _ _
      · exact eqb_pos b o b' o' c c' n l l' w hn h.len h'.len hc hc'
  · have e : decide (l = l') = false := by
      rw [decide_eq_false_iff_not]
      intro e
      subst e
      exact hne (h.len.symm.trans h'.len)
    rw [e]
    exact eqb_len a a' c c' n n' hne w

/-! ### lessBytes -/
/-- Bytewise order, a proper beginning first. -/
def lessL : List Int → List Int → Bool
  | _, [] => false
  | [], _ :: _ => true
  | x :: xs, y :: ys => if x = y then lessL xs ys else decide (x < y)

theorem lessL_at {l l' : List Int} : ∀ {k : Nat} (_ : l.take k = l'.take k) (h1 : k < l.length) (h2 : k < l'.length) (_ : (l[k] != l'[k]) = true), decide (l[k] < l'[k]) = lessL l l' := by
  induction l generalizing l' with
  | nil => intro k _ h1; simp at h1
  | cons x xs ih =>
    intro k ht h1 h2 hne
    cases l' with
    | nil => simp at h2
    | cons y ys =>
      cases k with
      | zero => simp at hne; simp [lessL, hne]
      | succ k =>
        simp at ht h1 h2 hne
        obtain ⟨rfl, ht⟩ := ht
        simp only [lessL, if_true]
        simp only [List.getElem_cons_succ]
        exact ih ht h1 (by simpa using h2) (by simpa using hne)

theorem lessL_end {l l' : List Int} : ∀ {k : Nat} (_ : l.take k = l'.take k) (_ : k = l.length ∨ k = l'.length) (_ : k ≤ l.length) (_ : k ≤ l'.length), decide (l.length < l'.length) = lessL l l' := by
  induction l generalizing l' with
  | nil =>
    intro k ht hk h1 h2
    cases l' with
    | nil => simp [lessL]
    | cons y ys => simp [lessL]
  | cons x xs ih =>
    intro k ht hk h1 h2
    cases l' with
    | nil => simp [lessL]
    | cons y ys =>
      cases k with
      | zero => simp at hk
      | succ k =>
        simp at ht hk h1 h2
        obtain ⟨rfl, ht⟩ := ht
        simp only [lessL, if_true, List.length_cons]
        rw [← ih ht (by omega) h1 (by omega)]
        simp

set_option maxHeartbeats 400000 in
theorem less_pos (b o b' o' c c' n n' : Nat) (l l' : List Int) (w : World) (hn : n ≤ maxLen) (hn' : n' ≤ maxLen) (hl : l.length = n) (hl' : l'.length = n')
    (hc : ∀ i, i < n → w.cell? ⟨b, o + i, none⟩ = some (.int .u8 (l.getD i 0))) (hc' : ∀ i, i < n' → w.cell? ⟨b', o' + i, none⟩ = some (.int .u8 (l'.getD i 0))) :
    Calls Try.prog 13 #[.slice (some ⟨b, o, none⟩) n c, .slice (some ⟨b', o', none⟩) n' c'] w fun e w' => e = .returned (.bool (lessL l l')) ∧ ∃ m, w' = w.drewN m := by
  unfold maxLen at hn hn'
  go_enter Try.func13, Try.ntmps13
  go_wp2
  go_loopw [5] (fun i wr => ∃ k m : Nat, k ≤ n ∧ k ≤ n' ∧ i = .int .i64 k ∧ Hid (l.take k = l'.take k) ∧ wr = w.drewN m) (fun i _ => n - (intOf i).toNat)
  case atStart => exact ⟨0, 0, Nat.zero_le _, Nat.zero_le _, rfl, rfl, rfl⟩
  case round =>
    obtain ⟨k, m, hk, hk', rfl, HE, rfl⟩ := hrel
    by_cases hlt : k < n ∧ k < n'
    · obtain ⟨hlt, hlt'⟩ := hlt
      have g := hc k hlt
      have g' := hc' k hlt'
      have i1 : (0 : Int) ≤ (k : Int) := by omega
      have i2 : (k : Int) < (n : Int) := by omega
      have i3 : (k : Int) < (n' : Int) := by omega
      clear hc hc'
      go_wp2
      go_quiet (fail)
      go_wp2
      · have hne : (l[k] != l'[k]) = true := by assumption
        have HN := lessL_at HE.out (by omega) (by omega) hne
        have HN' : Hid _ := HN
        clear HN hne
        go_quiet (fail)
        go_wp2
        go_ret
        exact ⟨ret_bool HN'.out, _, by simp; rfl⟩
      · go_roundw
        case rel => exact ⟨k + 1, m + nq, by omega, by omega, by go_num, take_eq_succ HE.out (by omega) (by omega) (by assumption), rfl⟩
        case measure => simp [intOf]; omega
    · by_cases hlt1 : k < n
      · have hge : ¬ k < n' := by omega
        go_wp2
        go_ret
        exact ⟨ret_bool (by rw [← lessL_end HE.out (by omega) (by omega) (by omega), hl, hl']), m, rfl⟩
      · go_wp2
        go_ret
        exact ⟨ret_bool (by rw [← lessL_end HE.out (by omega) (by omega) (by omega), hl, hl']), m, rfl⟩

theorem less_nil1 (a a' : Option Addr) (c c' n' : Nat) (w : World) (hn' : n' ≤ maxLen) :
    Calls Try.prog 13 #[.slice a 0 c, .slice a' n' c'] w fun e w' => e = .returned (.bool (decide (0 < n'))) ∧ ∃ m, w' = w.drewN m := by
  unfold maxLen at hn'
  go_enter Try.func13, Try.ntmps13
  go_wp2
  refine wp_loop_rounds 1 ?_
  rw [rounds_succ]
  go_wp2
  go_ret
  exact ⟨ret_bool (by simp), 0, rfl⟩
theorem less_nil2 (a a' : Option Addr) (c c' n : Nat) (w : World) (hn : n ≤ maxLen) :
    Calls Try.prog 13 #[.slice a n c, .slice a' 0 c'] w fun e w' => e = .returned (.bool false) ∧ ∃ m, w' = w.drewN m := by
  unfold maxLen at hn
  by_cases h0 : n = 0
  · subst h0
    go_enter Try.func13, Try.ntmps13
    go_wp2
    refine wp_loop_rounds 1 ?_
    rw [rounds_succ]
    go_wp2
    go_ret
    exact ⟨rfl, 0, rfl⟩
  · have : 0 < n := by omega
    go_enter Try.func13, Try.ntmps13
    go_wp2
    refine wp_loop_rounds 1 ?_
    rw [rounds_succ]
    go_wp2
    go_ret
    exact ⟨ret_bool (by simp), 0, rfl⟩

theorem lessb (a a' : Option Addr) (c c' n n' : Nat) (l l' : List Int) (w : World) (hn : n ≤ maxLen) (hn' : n' ≤ maxLen) (h : Byt w a n l) (h' : Byt w a' n' l') :
    Calls Try.prog 13 #[.slice a n c, .slice a' n' c'] w fun e w' => e = .returned (.bool (lessL l l')) ∧ ∃ m, w' = w.drewN m := by
  rcases h.cell with h0 | ⟨b, o, rfl, hc⟩
  · subst h0
    have e1 := List.eq_nil_of_length_eq_zero h.len
    subst e1
    have e : lessL [] l' = decide (0 < n') := by rw [← h'.len]; cases l' <;> simp [lessL]
    rw [e]
    exact less_nil1 _ _ _ _ _ _ hn'
  · rcases h'.cell with h0 | ⟨b', o', rfl, hc'⟩
    · subst h0
      have e2 := List.eq_nil_of_length_eq_zero h'.len
      subst e2
      have e : lessL l [] = false := by cases l <;> simp [lessL]
      rw [e]
      exact less_nil2 _ _ _ _ _ _ hn
    · exact less_pos b o b' o' c c' n n' l l' w hn hn' h.len h'.len hc hc'
end Go.Proofs.Qxb6631276a
