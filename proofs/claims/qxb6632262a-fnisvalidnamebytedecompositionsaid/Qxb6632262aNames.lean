import Derived.Test.Qxb6632262aBase
namespace Go.Proofs.Qxb6632262a
open Go.RowKit
open Go.PlainAid (bt get_bt bt_nonneg bt_le bt_end)
set_option linter.unusedVariables false

theorem strip_size (s : ByteArray) : (strip s).size ≤ s.size := by
  unfold strip
  split
  · simp
  · exact Nat.le_refl _

/-! ### IsValidName -/
set_option maxHeartbeats 400000 in
theorem valid (s : ByteArray) (w : World) (hs : s.size ≤ 2000000) : Calls Try.prog 7 #[.string s] w fun e w' => e = .returned (.bool (doc (strip s))) ∧ w' = w := by
  have ct := trim s w hs
  have CT : Hid _ := ct
  clear ct
  have hz := strip_size s
  generalize strip s = b at *
  by_cases h : 1 ≤ b.size ∧ b.size ≤ 64
  · obtain ⟨h1, h2⟩ := h
    have gb := get_bt b
    go_enter Try.func7, Try.ntmps7
    go_wp2_with fail
    refine Calls.mono CT.out ?_
    rintro e w' ⟨rfl, rfl⟩
    clear CT
    go_wp2
    go_loop [4] (fun i => ∃ k : Nat, k ≤ b.size ∧ i = .int .i64 k ∧ Hid (allNb b k = true)) (fun i => b.size - (intOf i).toNat)
    case atStart => exact ⟨0, Nat.zero_le _, rfl, rfl⟩
    case round =>
      obtain ⟨k, hk, rfl, HA⟩ := hrel
      by_cases hlt : k < b.size
      · have b0 := bt_nonneg b k
        have c := isNameByte (bt b k) b0 w'
        cases hb : nb (bt b k)
        · rw [hb] at c
          have C : Hid _ := c
          have D : Hid (doc b = false) := doc_false hlt hb
          clear c hb
          go_wp2_with fail
          refine Calls.mono C.out ?_
          rintro e w'' ⟨rfl, rfl⟩
          go_wp2
          go_ret
          exact ⟨ret_bool D.out.symm, rfl⟩
        · rw [hb] at c
          have C : Hid _ := c
          have D : Hid (allNb b (k + 1) = true) := by show _ = _; rw [allNb_succ, HA.out, hb]; rfl
          clear c hb
          go_wp2_with fail
          refine Calls.mono C.out ?_
          rintro e w'' ⟨rfl, rfl⟩
          go_wp2
          go_round
          case rel => exact ⟨k + 1, by omega, by go_num, D⟩
          case measure => simp [intOf]; omega
      · go_wp2
        go_ret
        have : b.size = k := by omega
        exact ⟨ret_bool (doc_true h1 h2 (by rw [this]; exact HA.out)).symm, rfl⟩
  · rw [doc_size h]
    by_cases h1 : b.size < 1
    all_goals
      go_enter Try.func7, Try.ntmps7
      go_wp2_with fail
      refine Calls.mono CT.out ?_
      rintro e w' ⟨rfl, rfl⟩
      clear CT
      go_wp2
      go_ret
      exact ⟨rfl, rfl⟩

/-! ### zzHasEphSuffix, zzStripEph -/
def sn (j : Nat) : Int := bt ⟨#[35, 101, 112, 104, 101, 109, 101, 114, 97, 108]⟩ j
def agree (s : ByteArray) (k : Nat) : Bool := (List.range k).all fun j => bt s (s.size - 10 + j) == sn j
theorem agree_succ (s : ByteArray) (k : Nat) : agree s (k + 1) = (agree s k && (bt s (s.size - 10 + k) == sn k)) := by unfold agree; rw [List.range_succ]; simp
theorem agree_false {s : ByteArray} {k : Nat} (h : k < 10) (hk : (bt s (s.size - 10 + k) == sn k) = false) : agree s 10 = false := by
  unfold agree
  rw [List.all_eq_false]
  exact ⟨k, by simpa using h, by simp [hk]⟩
theorem bt_data (s : ByteArray) (k : Nat) (h : k < s.size) : ∃ c : UInt8, s.data.toList[k]? = some c ∧ bt s k = (c.toNat : Int) := by
  refine ⟨s[k], Lib.data_getElem? s k h, (get_bt s k h).symm⟩
theorem sn_get : ∀ j, j < 10 → ∃ c : UInt8, sfx[j]? = some c ∧ sn j = (c.toNat : Int) := fun j hj =>
  bt_data ⟨#[35, 101, 112, 104, 101, 109, 101, 114, 97, 108]⟩ j hj
theorem hasS_agree (s : ByteArray) (h : 10 ≤ s.size) : hasS s = agree s 10 := by
  unfold hasS
  rw [show decide (10 ≤ s.size) = true by simpa using h, Bool.true_and, Lib.extract_toList, Bool.eq_iff_iff]
  have hl : s.data.toList.length = s.size := (Lib.size_eq s).symm
  have key : ∀ j, j < 10 → ((s.data.toList.drop (s.size - 10)).take (s.size - (s.size - 10)))[j]? = s.data.toList[s.size - 10 + j]? := fun j hj => by
    rw [List.getElem?_take, if_pos (by omega), List.getElem?_drop]
  constructor
  · intro he
    have he : (s.data.toList.drop (s.size - 10)).take (s.size - (s.size - 10)) = sfx := by simpa using he
    unfold agree
    rw [List.all_eq_true]
    intro j hj
    have hj : j < 10 := by simpa using hj
    obtain ⟨c, h1, h2⟩ := bt_data s (s.size - 10 + j) (by omega)
    obtain ⟨d, h3, h4⟩ := sn_get j hj
    have := key j hj
    rw [he, h3, h1] at this
    simp at this
    simp [h2, h4, this]
  · intro ha
    unfold agree at ha
    rw [List.all_eq_true] at ha
    have : (s.data.toList.drop (s.size - 10)).take (s.size - (s.size - 10)) = sfx := by
      apply List.ext_getElem?
      intro j
      by_cases hj : j < 10
      · rw [key j hj]
        obtain ⟨c, h1, h2⟩ := bt_data s (s.size - 10 + j) (by omega)
        obtain ⟨d, h3, h4⟩ := sn_get j hj
        have := ha j (by simpa using hj)
        rw [h2, h4] at this
        simp at this
        have e : c = d := UInt8.toNat_inj.1 (by omega)
        rw [h1, h3, e]
      · rw [List.getElem?_eq_none (by simp; omega), List.getElem?_eq_none (by simp [sfx]; omega)]
    simpa using this

set_option maxHeartbeats 400000 in
theorem hasEph (s : ByteArray) (w : World) (hs : s.size ≤ 2000000) : Calls Try.prog 9 #[.string s] w fun e w' => e = .returned (.bool (hasS s)) ∧ ∃ n, w' = w.drewN n := by
  by_cases h : 10 ≤ s.size
  · rw [hasS_agree s h]
    obtain ⟨f, E⟩ : ∃ f : Nat, Hid (f = s.size - 10) := ⟨s.size - 10, rfl⟩
    have e1 : (s.size : Int) - 10 = (f : Int) := by have := E.out; omega
    have hf : f + 10 ≤ s.size := by have := E.out; omega
    have gb := get_bt s
    have gb2 := get_bt ⟨#[35, 101, 112, 104, 101, 109, 101, 114, 97, 108]⟩
    go_enter Try.func9, Try.ntmps9
    go_wp2
    go_loopw [5] (fun i wr => ∃ k m : Nat, k ≤ 10 ∧ i = .int .i64 k ∧ Hid (agree s k = true) ∧ wr = w.drewN m) (fun i _ => 10 - (intOf i).toNat)
    case atStart => exact ⟨0, 0, Nat.zero_le _, rfl, rfl, rfl⟩
    case round =>
      obtain ⟨k, m, hk, rfl, HA, rfl⟩ := hrel
      by_cases hlt : k < 10
      · have wr1 : IntKind.i64.wrap ((f : Int) + (k : Int)) = (f : Int) + (k : Int) := by rw [IntWalk.i64_left, IntWalk.wrap64_in _ (by omega)]
        have i1 : (0 : Int) ≤ (f : Int) + (k : Int) := by omega
        have i2 : (f : Int) + (k : Int) < (s.size : Int) := by omega
        have i3 : (0 : Int) ≤ (k : Int) := by omega
        have i4 : (k : Int) < 10 := by omega
        go_wp2
        go_quiet (fail)
        go_wp2
        · have hne : (bt s (f + k) != bt ⟨#[35, 101, 112, 104, 101, 109, 101, 114, 97, 108]⟩ k) = true := by assumption
          go_ret
          have e := E.out
          subst e
          exact ⟨ret_bool (agree_false hlt (by unfold sn; simpa using hne)).symm, m + nq, by simp⟩
        · have heq : (bt s (f + k) != bt ⟨#[35, 101, 112, 104, 101, 109, 101, 114, 97, 108]⟩ k) = false := by assumption
          have D : Hid (agree s (k + 1) = true) := by
            have e := E.out
            subst e
            show _ = _
            rw [agree_succ, HA.out, Bool.true_and]
            unfold sn
            simpa using heq
          clear heq
          go_roundw
          case rel => exact ⟨k + 1, m + nq, by omega, by go_num, D, rfl⟩
          case measure => simp [intOf]; omega
      · go_wp2
        go_ret
        obtain rfl : k = 10 := by omega
        exact ⟨ret_bool HA.out.symm, m, rfl⟩
  · have hh : hasS s = false := by unfold hasS; simp [h]
    rw [hh]
    go_enter Try.func9, Try.ntmps9
    go_wp2
    go_ret
    exact ⟨rfl, 0, rfl⟩

theorem stripEph (s : ByteArray) (w : World) (hs : s.size ≤ 2000000) : Calls Try.prog 6 #[.string s] w fun e w' => e = .returned (.string (strip s)) ∧ ∃ n, w' = w.drewN n := by
  by_cases h : hasS s = true
  · have h1 := hasS_size h
    have e : strip s = s.extract 0 (s.size - 10) := by unfold strip; rw [if_pos h]
    have c := hasEph s w hs
    rw [h] at c
    have C : Hid _ := c
    rw [e]
    clear c e
    go_enter Try.func6, Try.ntmps6
    go_wp2_with fail
    refine Calls.mono C.out ?_
    rintro e w' ⟨rfl, n, rfl⟩
    go_wp2
    go_ret
    exact ⟨rfl, n, rfl⟩
  · have h' : hasS s = false := by simpa using h
    have e : strip s = s := by unfold strip; rw [if_neg h]
    have c := hasEph s w hs
    rw [h'] at c
    have C : Hid _ := c
    rw [e]
    clear c e
    go_enter Try.func6, Try.ntmps6
    go_wp2_with fail
    refine Calls.mono C.out ?_
    rintro e w' ⟨rfl, n, rfl⟩
    go_wp2
    go_ret
    exact ⟨rfl, n, rfl⟩

/-! ### The plain laws -/
theorem doc_hasS {s : ByteArray} (h : hasS s = true) : doc s = false := by
  have h10 := hasS_size h
  rw [hasS_agree s h10] at h
  unfold agree at h
  rw [List.all_eq_true] at h
  have h0 := h 0 (by simp)
  refine doc_false (k := s.size - 10 + 0) (by omega) ?_
  rw [show bt s (s.size - 10 + 0) = sn 0 by simpa using h0]
  rfl
theorem strip_none {s : ByteArray} (h : hasS s = false) : strip s = s := by unfold strip; rw [if_neg (by simp [h])]
theorem twin (s : ByteArray) : doc s = (doc (strip s) && !hasS s) := by
  cases h : hasS s with
  | true => rw [doc_hasS h]; simp
  | false => rw [strip_none h]; simp

theorem bytes_ext {a b : ByteArray} (h : a.data.toList = b.data.toList) : a = b := by
  rw [← Lib.mk_data a, ← Lib.mk_data b, h]
theorem app_data (a b : ByteArray) : (a ++ b).data.toList = a.data.toList ++ b.data.toList := by simp
theorem strip_app (s : ByteArray) : strip (s ++ ⟨#[35, 101, 112, 104, 101, 109, 101, 114, 97, 108]⟩) = s := by
  have hz : (s ++ ⟨#[35, 101, 112, 104, 101, 109, 101, 114, 97, 108]⟩ : ByteArray).size = s.size + 10 := by rw [Lib.size_eq, app_data, List.length_append, ← Lib.size_eq]; rfl
  have hh : hasS (s ++ ⟨#[35, 101, 112, 104, 101, 109, 101, 114, 97, 108]⟩) = true := by
    unfold hasS
    rw [hz, Lib.extract_toList, app_data]
    have e : s.data.toList.length = s.size := (Lib.size_eq s).symm
    rw [show s.size + 10 - 10 = s.size by omega, show s.size + 10 - s.size = 10 by omega, List.drop_left' e, show decide (10 ≤ s.size + 10) = true by simp]
    rfl
  unfold strip
  rw [if_pos hh, hz]
  apply bytes_ext
  rw [Lib.extract_data, app_data]
  have e : s.data.toList.length = s.size := (Lib.size_eq s).symm
  rw [Nat.sub_zero, List.drop_zero, show s.size + 10 - 10 = s.size by omega, List.take_left' e]
end Go.Proofs.Qxb6632262a
