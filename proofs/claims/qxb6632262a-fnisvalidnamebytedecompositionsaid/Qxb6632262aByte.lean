import Derived.Test.Qxb6632262aMade
namespace Go.Proofs.Qxb6632262a
open Go.RowKit
open Go.PlainAid (bt get_bt bt_nonneg bt_le bt_end)
set_option linter.unusedVariables false

theorem zzb10 (s : ByteArray) (w : World) (hs : s.size ≤ maxLen) : Calls Try.prog 10 #[.string s] w fun e w' => e = .returned (.bool (decide (s.size ≤ 1048576))) ∧ w' = w := by
  unfold maxLen at hs
  by_cases h : s.size ≤ 1048576
  · go_enter Try.func10, Try.ntmps10
    go_wp2
    go_ret
    exact ⟨ret_bool (by simp [h]), rfl⟩
  · have h' : 1048576 < s.size := by omega
    go_enter Try.func10, Try.ntmps10
    go_wp2
    go_ret
    exact ⟨ret_bool (by simp [h']), rfl⟩

theorem below_drawn {B : Nat} {a w : World} (h : Below B a w) (q : Nat) : Below B a (w.drewN q) := ⟨h.os, h.tape, h.output, h.size, h.block⟩

/-! ### How many bytes are names by themselves -/
def cntN : Nat → Int
  | 0 => 0
  | k + 1 => cntN k + if nb (k : Int) = true then 1 else 0
theorem cntN_bd : ∀ k : Nat, 0 ≤ cntN k ∧ cntN k ≤ k
  | 0 => by simp [cntN]
  | k + 1 => by
    have := cntN_bd k
    simp only [cntN]
    split <;> omega
theorem cntN_256 : cntN 256 = 65 := by decide +kernel
theorem cntN_yes {k : Nat} (h : nb (k : Int) = true) : cntN (k + 1) = cntN k + 1 := by simp only [cntN]; rw [if_pos h]
theorem cntN_no {k : Nat} (h : nb (k : Int) = false) : cntN (k + 1) = cntN k := by simp only [cntN]; rw [if_neg (by simp [h])]; omega

/-! ### The base, byte by byte -/
def inr (b : ByteArray) : Bool := decide (1 ≤ b.size) && decide (b.size ≤ 64)
theorem doc_at_end {b : ByteArray} {k : Nat} (h : k = b.size) : (inr b && allNb b k) = doc b := by subst h; rfl
theorem doc_at_no {b : ByteArray} {k : Nat} (h : k ≤ b.size) (hp : (inr b && allNb b k) = false) : false = doc b := by
  unfold doc
  rw [show (decide (1 ≤ b.size) && decide (b.size ≤ 64)) = inr b from rfl]
  cases hi : inr b with
  | false => simp
  | true =>
    rw [hi, Bool.true_and] at hp
    unfold allNb at hp
    rw [List.all_eq_false] at hp
    obtain ⟨j, hj, hn⟩ := hp
    rw [Bool.true_and, allNb_false (k := j) (by have : j < k := by simpa using hj
                                                omega) (by simpa using hn)]

set_option maxRecDepth 100000 in
set_option maxHeartbeats 4000000 in
theorem byteB (a0 : ByteArray) (w0 : a0.size ≤ 1048576) (h1 : (strip a0).size = 0) (w : World) :
    Calls Try.prog 4 #[.string a0] w fun e w' => e = .returned (.bool true) ∧ Below w.heap.size w w' := by
  have c := zzb10 a0 w (by unfold maxLen; omega)
  rw [show decide (a0.size ≤ 1048576) = true by simpa using w0] at c
  have C : Hid _ := c
  clear c
  have hbz := strip_size a0
  have d0 : decide ((1048576 : Int) < (a0.size : Int)) = false := by simp; omega
  go_enter Try.func4, Try.ntmps4
  go_wp2_with fail
  refine Calls.mono C.out ?_
  rintro e w' ⟨rfl, rfl⟩
  clear C
  go_wp2_with fail
  refine (stripEph a0 _ (by omega)).mono ?_
  rintro e w1 ⟨rfl, n1, rfl⟩
  go_wp2_with fail
  refine (valid a0 _ (by omega)).mono ?_
  rintro e w2 ⟨rfl, rfl⟩
  generalize strip a0 = b at *
  have gb := get_bt b
  have bw : Below w'.heap.size w' (w'.drewN n1) := below_drawn (Below.refl _ _) _
  have hd : doc b = false := doc_size (by omega)
  have z0 : (b.size : Int) = 0 := by omega
  go_wp2
  refine wp_loop_rounds 1 ?_
  rw [rounds_succ]
  go_wp2
  go_loopw [7, 8] (fun t i wr => ∃ k : Nat, k ≤ 256 ∧ i = .int .i64 k ∧ t = .int .i64 (cntN k) ∧ Below w'.heap.size w' wr) (fun _ i _ => 256 - (intOf i).toNat)
  case atStart => exact ⟨0, Nat.zero_le _, rfl, rfl, bw⟩
  case round =>
  obtain ⟨k, hk, rfl, rfl, hbel⟩ := hrel
  obtain ⟨q1, q2⟩ := cntN_bd k
  by_cases hlt : k < 256
  · cases hb : nb (k : Int)
    · have CN : Hid _ := cntN_no hb
      have SG : Hid _ := fun w => single (k : Int) (by omega) (by omega) w
      go_wp2_with fail
      refine Calls.mono (SG.out _) ?_
      rintro e w5 ⟨rfl, hb5⟩
      rw [hb]
      have bel5 := hbel.trans (hb5.mono hbel.size)
      clear hbel hb5 hb
      go_wp2
      go_roundw
      case rel => exact ⟨k + 1, by omega, by go_num, by rw [CN.out], bel5⟩
      case measure => simp [intOf]; omega
    · have CN : Hid _ := cntN_yes hb
      have SG : Hid _ := fun w => single (k : Int) (by omega) (by omega) w
      go_wp2_with fail
      refine Calls.mono (SG.out _) ?_
      rintro e w5 ⟨rfl, hb5⟩
      rw [hb]
      have bel5 := hbel.trans (hb5.mono hbel.size)
      clear hbel hb5 hb
      go_wp2
      go_roundw
      case rel => exact ⟨k + 1, by omega, by go_num, by rw [CN.out], bel5⟩
      case measure => simp [intOf]; omega
  obtain rfl : k = 256 := by omega
  rw [cntN_256]
  clear hk hlt q1 q2
  go_wp2
  go_ret
  exact ⟨rfl, hbel⟩

end Go.Proofs.Qxb6632262a
