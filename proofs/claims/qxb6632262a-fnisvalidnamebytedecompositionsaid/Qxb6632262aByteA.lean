import Derived.Test.Qxb6632262aByte
namespace Go.Proofs.Qxb6632262a
open Go.RowKit
open Go.PlainAid (bt get_bt bt_nonneg bt_le bt_end)
set_option linter.unusedVariables false

set_option maxRecDepth 100000 in
set_option maxHeartbeats 4000000 in
theorem byteA (a0 : ByteArray) (w0 : a0.size ≤ 1048576) (h1 : 1 ≤ (strip a0).size) (h2 : (strip a0).size ≤ 64) (w : World) :
    Calls Try.prog 4 #[.string a0] w fun e w' => e = .returned (.bool true) ∧ Below w.heap.size w w' := by
  have c := zzb10 a0 w (by unfold maxLen; omega)
  rw [show decide (a0.size ≤ 1048576) = true by simpa using w0] at c
  have C : Hid _ := c
  clear c
  have hbz := strip_size a0
  have d0 : decide ((1048576 : Int) < (a0.size : Int)) = false := by simp; omega
  go_enter Try.func4, Try.ntmps4
  go_wp2_with fail
  refine Calls.mono C.out ?_
  rintro e w' ⟨rfl, rfl⟩
  clear C
  go_wp2_with fail
  refine (stripEph a0 _ (by omega)).mono ?_
  rintro e w1 ⟨rfl, n1, rfl⟩
  go_wp2_with fail
  refine (valid a0 _ (by omega)).mono ?_
  rintro e w2 ⟨rfl, rfl⟩
  generalize strip a0 = b at *
  have gb := get_bt b
  have bw : Below w'.heap.size w' (w'.drewN n1) := below_drawn (Below.refl _ _) _
  have d1 : decide ((1 : Int) ≤ (b.size : Int)) = true := by simp; omega
  have d2 : decide ((b.size : Int) ≤ 64) = true := by simp; omega
  go_wp2
  go_loopw [5, 6] (fun v i wr => ∃ (k : Nat) (p : Bool), k ≤ b.size ∧ i = .int .i64 k ∧ v = .bool p ∧ Hid (allNb b k = p) ∧ Below w'.heap.size w' wr) (fun _ i _ => b.size - (intOf i).toNat)
  case atStart => exact ⟨0, true, Nat.zero_le _, rfl, rfl, rfl, bw⟩
  case round =>
  obtain ⟨k, p, hk, rfl, rfl, HP, hbel⟩ := hrel
  by_cases hgo : k < b.size ∧ p = true
  · obtain ⟨hlt, rfl⟩ := hgo
    have b1 := bt_nonneg b k
    have b2 := bt_le b k
    have AS : Hid _ := allNb_succ b k
    have SG : Hid _ := fun w => single (bt b k) b1 b2 w
    cases hb : nb (bt b k)
    all_goals
      have HB : Hid _ := hb
      go_wp2_with fail
      refine Calls.mono (SG.out _) ?_
      rintro e w5 ⟨rfl, hb5⟩
      rw [hb]
      have bel5 := hbel.trans (hb5.mono hbel.size)
      clear hbel hb5 hb
      go_wp2
      go_roundw
      case rel => exact ⟨k + 1, _, by omega, by go_num, rfl, by show allNb b (k + 1) = _; rw [AS.out, HP.out, HB.out]; rfl, bel5⟩
      case measure => simp [intOf]; omega
  have hd : doc b = p := by
    by_cases hlt : k < b.size
    · have hp : p = false := by cases p; rfl; exact absurd ⟨hlt, rfl⟩ hgo
      subst hp
      exact (doc_at_no (by omega) (by rw [HP.out]; simp)).symm
    · rw [← doc_at_end (b := b) (k := k) (by omega), HP.out]
      unfold inr
      simp [h1, h2]
  rw [hd]
  clear hd
  by_cases hlt : k < b.size
  · obtain rfl : p = false := by cases p; rfl; exact absurd ⟨hlt, rfl⟩ hgo
    clear HP hgo
    have dk : decide ((k : Int) < (b.size : Int)) = true := by simpa using hlt
    go_wp2
    clear hk hlt
    go_loopw [7, 8] (fun t i wr => ∃ k : Nat, k ≤ 256 ∧ i = .int .i64 k ∧ t = .int .i64 (cntN k) ∧ Below w'.heap.size w' wr) (fun _ i _ => 256 - (intOf i).toNat)
    case atStart => exact ⟨0, Nat.zero_le _, rfl, rfl, hbel⟩
    case round =>
    obtain ⟨k, hk, rfl, rfl, hbel⟩ := hrel
    obtain ⟨q1, q2⟩ := cntN_bd k
    by_cases hlt : k < 256
    · cases hb : nb (k : Int)
      · have CN : Hid _ := cntN_no hb
        have SG : Hid _ := fun w => single (k : Int) (by omega) (by omega) w
        go_wp2_with fail
        refine Calls.mono (SG.out _) ?_
        rintro e w5 ⟨rfl, hb5⟩
        rw [hb]
        have bel5 := hbel.trans (hb5.mono hbel.size)
        clear hbel hb5 hb
        go_wp2
        go_roundw
        case rel => exact ⟨k + 1, by omega, by go_num, by rw [CN.out], bel5⟩
        case measure => simp [intOf]; omega
      · have CN : Hid _ := cntN_yes hb
        have SG : Hid _ := fun w => single (k : Int) (by omega) (by omega) w
        go_wp2_with fail
        refine Calls.mono (SG.out _) ?_
        rintro e w5 ⟨rfl, hb5⟩
        rw [hb]
        have bel5 := hbel.trans (hb5.mono hbel.size)
        clear hbel hb5 hb
        go_wp2
        go_roundw
        case rel => exact ⟨k + 1, by omega, by go_num, by rw [CN.out], bel5⟩
        case measure => simp [intOf]; omega
    obtain rfl : k = 256 := by omega
    rw [cntN_256]
    clear hk hlt q1 q2
    have g0 := gb 0 (by omega)
    have b1 := bt_nonneg b 0
    have b2 := bt_le b 0
    cases hb : nb (bt b 0)
    · have SG : Hid _ := fun w => single (bt b 0) b1 b2 w
      go_wp2_with fail
      refine Calls.mono (SG.out _) ?_
      rintro e w5 ⟨rfl, hb5⟩
      rw [hb]
      have bel5 := hbel.trans (hb5.mono hbel.size)
      clear hbel hb5 hb SG
      go_wp2
      go_ret
      exact ⟨rfl, bel5⟩
    · have SG : Hid _ := fun w => single (bt b 0) b1 b2 w
      have D1 : Hid _ := doc_repS (bt b 0) b1 b2 hb 64 (by omega)
      have D2 : Hid _ := doc_repS (bt b 0) b1 b2 hb 65 (by omega)
      go_wp2_with fail
      refine Calls.mono (SG.out _) ?_
      rintro e w5 ⟨rfl, hb5⟩
      rw [hb]
      have bel5 := hbel.trans (hb5.mono hbel.size)
      clear hbel hb5 hb SG
      go_wp2_with fail
      refine (repC (bt b 0) 64 _ rfl (by omega) _).mono ?_
      rintro e w6 ⟨rfl, hb6⟩
      have bel6 := bel5.trans (hb6.mono bel5.size)
      clear bel5 hb6
      go_wp2_with fail
      refine (repC (bt b 0) 65 _ rfl (by omega) _).mono ?_
      rintro e w7 ⟨rfl, hb7⟩
      have bel7 := bel6.trans (hb7.mono bel6.size)
      clear bel6 hb7
      go_wp2_with fail
      refine (valid _ _ (by rw [repS_size]; omega)).mono ?_
      rintro e w8 ⟨rfl, rfl⟩
      rw [D1.out]
      go_wp2_with fail
      refine (valid _ _ (by rw [repS_size]; omega)).mono ?_
      rintro e w9 ⟨rfl, rfl⟩
      rw [D2.out]
      go_wp2
      go_ret
      exact ⟨rfl, bel7⟩
  · clear HP hgo
    have dk : decide ((k : Int) < (b.size : Int)) = false := by simpa using hlt
    go_wp2
    clear hk hlt
    go_loopw [7, 8] (fun t i wr => ∃ k : Nat, k ≤ 256 ∧ i = .int .i64 k ∧ t = .int .i64 (cntN k) ∧ Below w'.heap.size w' wr) (fun _ i _ => 256 - (intOf i).toNat)
    case atStart => exact ⟨0, Nat.zero_le _, rfl, rfl, hbel⟩
    case round =>
    obtain ⟨k, hk, rfl, rfl, hbel⟩ := hrel
    obtain ⟨q1, q2⟩ := cntN_bd k
    by_cases hlt : k < 256
    · cases hb : nb (k : Int)
      · have CN : Hid _ := cntN_no hb
        have SG : Hid _ := fun w => single (k : Int) (by omega) (by omega) w
        go_wp2_with fail
        refine Calls.mono (SG.out _) ?_
        rintro e w5 ⟨rfl, hb5⟩
        rw [hb]
        have bel5 := hbel.trans (hb5.mono hbel.size)
        clear hbel hb5 hb
        go_wp2
        go_roundw
        case rel => exact ⟨k + 1, by omega, by go_num, by rw [CN.out], bel5⟩
        case measure => simp [intOf]; omega
      · have CN : Hid _ := cntN_yes hb
        have SG : Hid _ := fun w => single (k : Int) (by omega) (by omega) w
        go_wp2_with fail
        refine Calls.mono (SG.out _) ?_
        rintro e w5 ⟨rfl, hb5⟩
        rw [hb]
        have bel5 := hbel.trans (hb5.mono hbel.size)
        clear hbel hb5 hb
        go_wp2
        go_roundw
        case rel => exact ⟨k + 1, by omega, by go_num, by rw [CN.out], bel5⟩
        case measure => simp [intOf]; omega
    obtain rfl : k = 256 := by omega
    rw [cntN_256]
    clear hk hlt q1 q2
    have g0 := gb 0 (by omega)
    have b1 := bt_nonneg b 0
    have b2 := bt_le b 0
    cases hb : nb (bt b 0)
    · have SG : Hid _ := fun w => single (bt b 0) b1 b2 w
      go_wp2_with fail
      refine Calls.mono (SG.out _) ?_
      rintro e w5 ⟨rfl, hb5⟩
      rw [hb]
      have bel5 := hbel.trans (hb5.mono hbel.size)
      clear hbel hb5 hb SG
      go_wp2
      go_ret
      exact ⟨rfl, bel5⟩
    · have SG : Hid _ := fun w => single (bt b 0) b1 b2 w
      have D1 : Hid _ := doc_repS (bt b 0) b1 b2 hb 64 (by omega)
      have D2 : Hid _ := doc_repS (bt b 0) b1 b2 hb 65 (by omega)
      go_wp2_with fail
      refine Calls.mono (SG.out _) ?_
      rintro e w5 ⟨rfl, hb5⟩
      rw [hb]
      have bel5 := hbel.trans (hb5.mono hbel.size)
      clear hbel hb5 hb SG
      go_wp2_with fail
      refine (repC (bt b 0) 64 _ rfl (by omega) _).mono ?_
      rintro e w6 ⟨rfl, hb6⟩
      have bel6 := bel5.trans (hb6.mono bel5.size)
      clear bel5 hb6
      go_wp2_with fail
      refine (repC (bt b 0) 65 _ rfl (by omega) _).mono ?_
      rintro e w7 ⟨rfl, hb7⟩
      have bel7 := bel6.trans (hb7.mono bel6.size)
      clear bel6 hb7
      go_wp2_with fail
      refine (valid _ _ (by rw [repS_size]; omega)).mono ?_
      rintro e w8 ⟨rfl, rfl⟩
      rw [D1.out]
      go_wp2_with fail
      refine (valid _ _ (by rw [repS_size]; omega)).mono ?_
      rintro e w9 ⟨rfl, rfl⟩
      rw [D2.out]
      go_wp2
      go_ret
      exact ⟨rfl, bel7⟩

end Go.Proofs.Qxb6632262a
