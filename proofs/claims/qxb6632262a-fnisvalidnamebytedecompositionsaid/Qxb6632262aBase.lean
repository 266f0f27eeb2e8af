import Derived.Test.Qxb6632262aRows
import Derived.WalkKit
import Derived.WalkSpells
import Derived.WalkLawsBesides
import Derived.Deep.QuietTactic
import Derived.BigQuiet
import Derived.Deep.Draws
import Derived.PlainAid
import Derived.Lib.Strings
import Derived.Lib.IndexBytes
namespace Go.Proofs.Qxb6632262a
open Go.RowKit
open Go.PlainAid (bt get_bt bt_nonneg bt_le bt_end)
set_option linter.unusedVariables false

theorem ret_bool {a b : Bool} (h : a = b) : Ending.returned (.bool a) = .returned (.bool b) := by rw [h]

/-! ### The bytes of a name -/
def nb (c : Int) : Bool := decide (c = 45 ∨ c = 46 ∨ (48 ≤ c ∧ c ≤ 57) ∨ (65 ≤ c ∧ c ≤ 90) ∨ c = 95 ∨ (97 ≤ c ∧ c ≤ 122))
theorem parts (c : Int) (h0 : 0 ≤ c) : c < 45 ∨ c = 45 ∨ c = 46 ∨ c = 47 ∨ (48 ≤ c ∧ c ≤ 57) ∨ (58 ≤ c ∧ c ≤ 64) ∨ (65 ≤ c ∧ c ≤ 90) ∨ (91 ≤ c ∧ c ≤ 94) ∨ c = 95 ∨ c = 96 ∨ (97 ≤ c ∧ c ≤ 122) ∨ 123 ≤ c := by omega

set_option maxHeartbeats 2000000 in
theorem isNameByte (c : Int) (h0 : 0 ≤ c) (w : World) : Calls Try.prog 14 #[.int .u8 c] w fun e w' => e = .returned (.bool (nb c)) ∧ w' = w := by
  rcases parts c h0 with h | rfl | rfl | rfl | h | h | h | h | rfl | rfl | h | h
  all_goals
    go_enter Try.func14, Try.ntmps14
    go_wp2
    go_ret
    refine ⟨ret_bool ?_, rfl⟩
    unfold nb
    first | exact (decide_eq_true (by omega)).symm | exact (decide_eq_false (by omega)).symm | (rw [Bool.eq_iff_iff]; simp only [Bool.or_eq_true, beq_iff_eq, decide_eq_true_eq]; omega)
set_option maxHeartbeats 2000000 in
theorem docByte (c : Int) (h0 : 0 ≤ c) (w : World) : Calls Try.prog 15 #[.int .u8 c] w fun e w' => e = .returned (.bool (nb c)) ∧ w' = w := by
  rcases parts c h0 with h | rfl | rfl | rfl | h | h | h | h | rfl | rfl | h | h
  all_goals
    go_enter Try.func15, Try.ntmps15
    go_wp2
    go_ret
    refine ⟨ret_bool ?_, rfl⟩
    unfold nb
    first | exact (decide_eq_true (by omega)).symm | exact (decide_eq_false (by omega)).symm | (rw [Bool.eq_iff_iff]; simp only [Bool.or_eq_true, beq_iff_eq, decide_eq_true_eq]; omega)

/-! ### The suffix -/
def sfx : List UInt8 := [35, 101, 112, 104, 101, 109, 101, 114, 97, 108]
def SF : ByteArray := ⟨#[35, 101, 112, 104, 101, 109, 101, 114, 97, 108]⟩
def hasS (s : ByteArray) : Bool := decide (10 ≤ s.size) && ((s.extract (s.size - 10) s.size).toList == sfx)
def strip (s : ByteArray) : ByteArray := if hasS s = true then s.extract 0 (s.size - 10) else s

theorem hasSuffix (s : ByteArray) (w : World) (hs : s.size ≤ 2000000) : Calls Try.prog 17 #[.string s, .string ⟨#[35, 101, 112, 104, 101, 109, 101, 114, 97, 108]⟩] w fun e w' => e = .returned (.bool (hasS s)) ∧ w' = w := by
  by_cases h : 10 ≤ s.size
  · go_enter Try.func17, Try.ntmps17
    go_wp2
    go_ret
    exact ⟨ret_bool (by unfold hasS sfx; simp [h]), rfl⟩
  · go_enter Try.func17, Try.ntmps17
    go_wp2
    go_ret
    exact ⟨ret_bool (by unfold hasS; simp [h]), rfl⟩
theorem hasS_size {s : ByteArray} (h : hasS s = true) : 10 ≤ s.size := by unfold hasS at h; simp at h; exact h.1

theorem trim16 (s : ByteArray) (w : World) (hs : s.size ≤ 2000000) : Calls Try.prog 16 #[.string s, .string ⟨#[35, 101, 112, 104, 101, 109, 101, 114, 97, 108]⟩] w fun e w' => e = .returned (.string (strip s)) ∧ w' = w := by
  by_cases h : hasS s = true
  · have h1 := hasS_size h
    have e : strip s = s.extract 0 (s.size - 10) := by unfold strip; rw [if_pos h]
    have c := hasSuffix s w hs
    rw [h] at c
    have C : Hid _ := c
    rw [e]
    clear c e
    go_enter Try.func16, Try.ntmps16
    go_wp2_with fail
    refine Calls.mono C.out ?_
    rintro e w' ⟨rfl, rfl⟩
    go_wp2
    go_ret
    exact ⟨rfl, rfl⟩
  · have h' : hasS s = false := by simpa using h
    have e : strip s = s := by unfold strip; rw [if_neg h]
    have c := hasSuffix s w hs
    rw [h'] at c
    have C : Hid _ := c
    rw [e]
    clear c e
    go_enter Try.func16, Try.ntmps16
    go_wp2_with fail
    refine Calls.mono C.out ?_
    rintro e w' ⟨rfl, rfl⟩
    go_wp2
    go_ret
    exact ⟨rfl, rfl⟩

theorem trim (s : ByteArray) (w : World) (hs : s.size ≤ 2000000) : Calls Try.prog 13 #[.string s, .string ⟨#[35, 101, 112, 104, 101, 109, 101, 114, 97, 108]⟩] w fun e w' => e = .returned (.string (strip s)) ∧ w' = w := by
  go_enter Try.func13, Try.ntmps13
  go_wp2_with fail
  refine (trim16 s _ hs).mono ?_
  rintro e w' ⟨rfl, rfl⟩
  go_wp2
  go_ret
  exact ⟨rfl, rfl⟩

/-! ### The rule for a name without suffix -/
def allNb (s : ByteArray) (k : Nat) : Bool := (List.range k).all fun j => nb (bt s j)
def doc (s : ByteArray) : Bool := decide (1 ≤ s.size) && decide (s.size ≤ 64) && allNb s s.size
theorem allNb_succ (s : ByteArray) (k : Nat) : allNb s (k + 1) = (allNb s k && nb (bt s k)) := by unfold allNb; rw [List.range_succ]; simp
theorem allNb_false {s : ByteArray} {k n : Nat} (h : k < n) (hk : nb (bt s k) = false) : allNb s n = false := by
  unfold allNb
  rw [List.all_eq_false]
  exact ⟨k, by simpa using h, by simp [hk]⟩
theorem doc_false {s : ByteArray} {k : Nat} (h : k < s.size) (hk : nb (bt s k) = false) : doc s = false := by unfold doc; rw [allNb_false h hk]; simp
theorem doc_true {s : ByteArray} (h1 : 1 ≤ s.size) (h2 : s.size ≤ 64) (h : allNb s s.size = true) : doc s = true := by unfold doc; simp [h1, h2, h]
theorem doc_size {s : ByteArray} (h : ¬ (1 ≤ s.size ∧ s.size ≤ 64)) : doc s = false := by
  unfold doc
  by_cases h1 : 1 ≤ s.size
  · have : ¬ s.size ≤ 64 := fun h2 => h ⟨h1, h2⟩
    simp [this]
  · simp [h1]

set_option maxHeartbeats 400000 in
theorem docName (s : ByteArray) (w : World) (hs : s.size ≤ 2000000) : Calls Try.prog 8 #[.string s] w fun e w' => e = .returned (.bool (doc s)) ∧ w' = w := by
  by_cases h : 1 ≤ s.size ∧ s.size ≤ 64
  · obtain ⟨h1, h2⟩ := h
    have gb := get_bt s
    go_enter Try.func8, Try.ntmps8
    go_wp2
    go_loop [3] (fun i => ∃ k : Nat, k ≤ s.size ∧ i = .int .i64 k ∧ Hid (allNb s k = true)) (fun i => s.size - (intOf i).toNat)
    case atStart => exact ⟨0, Nat.zero_le _, rfl, rfl⟩
    case round =>
      obtain ⟨k, hk, rfl, HA⟩ := hrel
      by_cases hlt : k < s.size
      · have b0 := bt_nonneg s k
        have c := docByte (bt s k) b0 w
        cases hb : nb (bt s k)
        · rw [hb] at c
          have C : Hid _ := c
          have D : Hid (doc s = false) := doc_false hlt hb
          clear c hb
          go_wp2_with fail
          refine Calls.mono C.out ?_
          rintro e w' ⟨rfl, rfl⟩
          go_wp2
          go_ret
          exact ⟨ret_bool D.out.symm, rfl⟩
        · rw [hb] at c
          have C : Hid _ := c
          have D : Hid (allNb s (k + 1) = true) := by show _ = _; rw [allNb_succ, HA.out, hb]; rfl
          clear c hb
          go_wp2_with fail
          refine Calls.mono C.out ?_
          rintro e w' ⟨rfl, rfl⟩
          go_wp2
          go_round
          case rel => exact ⟨k + 1, by omega, by go_num, D⟩
          case measure => simp [intOf]; omega
      · go_wp2
        go_ret
        have : s.size = k := by omega
        exact ⟨ret_bool (doc_true h1 h2 (by rw [this]; exact HA.out)).symm, rfl⟩
  · rw [doc_size h]
    by_cases h1 : s.size < 1
    · go_enter Try.func8, Try.ntmps8
      go_wp2
      go_ret
      exact ⟨rfl, rfl⟩
    · have h2 : 64 < s.size := by omega
      go_enter Try.func8, Try.ntmps8
      go_wp2
      go_ret
      exact ⟨rfl, rfl⟩
end Go.Proofs.Qxb6632262a
