import Derived.Test.Qxb6631276aSplit
namespace Go.Proofs.Qxb6631276a
open Go.RowKit
set_option linter.unusedVariables false

/-! ### What came in -/
def Rec.icells (r : Rec) : List Value := [.slice r.ka r.kn r.kc, .int .u64 r.txn, .bool r.del, .slice r.va r.vn r.vc, .int .u32 r.f, .int .u32 r.s]
def InAt (w : World) (b q : Nat) (r : Rec) : Prop := ∀ j u, r.icells[j]? = some u → w.cell? ⟨b, q + j, none⟩ = some u
def Ins (w : World) (b off n : Nat) (es : Nat → Rec) : Prop := ∀ i, i < n → InAt w b (off + i * 6) (es i)

/-- It comes back with a bool. -/
def IsBool (e : Ending) : Prop := ∃ x, e = .returned (.bool x)
/-- It comes back with a bool, and with true only where p holds. -/
def IsBoolIf (p : Prop) (e : Ending) : Prop := ∃ x, e = .returned (.bool x) ∧ (x = true → p)

set_option maxHeartbeats 400000 in
theorem zzb5 (b off n c : Nat) (kind : Int) (es : Nat → Rec) (w : World) (hn : n ≤ maxLen) (h : Ins w b off n es) :
    Calls Try.prog 5 #[.slice (some ⟨b, off, none⟩) n c, .int .i64 kind] w fun e w' => IsBool e ∧ w' = w := by
  unfold maxLen at hn
  by_cases hb : 1048576 < n
  · go_enter Try.func5, Try.ntmps5
    go_wp2
    go_ret
    exact ⟨⟨_, rfl⟩, rfl⟩
  · go_enter Try.func5, Try.ntmps5
    go_wp2
    go_loop [5, 6] (fun z i => ∃ (k : Nat) (y : Int), k ≤ n ∧ 0 ≤ y ∧ y ≤ 1048576 ∧ i = .int .i64 k ∧ z = .int .i64 y) (fun _ i => n - (intOf i).toNat)
    case atStart => exact ⟨0, n, Nat.zero_le _, by omega, by omega, rfl, rfl⟩
    case round =>
      obtain ⟨k, y, hk, y0, y1, rfl, rfl⟩ := hrel
      by_cases hlt : k < n
      · have he := h k hlt
        have g0 : w.cell? ⟨b, off + k * 6, none⟩ = some (.slice (es k).ka (es k).kn (es k).kc) := he 0 _ rfl
        have g3 : w.cell? ⟨b, off + k * 6 + 3, none⟩ = some (.slice (es k).va (es k).vn (es k).vc) := he 3 _ rfl
        clear he h
        go_wp2
        all_goals first
          | (go_ret; exact ⟨⟨_, rfl⟩, rfl⟩)
          | (go_round
             case rel => exact ⟨k + 1, y + (es k).kn + (es k).vn, by omega, by omega, by omega, by go_num, by go_num⟩
             case measure => simp [intOf]; omega)
      · go_wp2
        go_ret
        exact ⟨⟨_, rfl⟩, rfl⟩

set_option maxHeartbeats 400000 in
theorem zzb12 (b off n c : Nat) (kind : Int) (es : Nat → Rec) (w : World) (hn : n ≤ maxLen) (h : Ins w b off n es) :
    Calls Try.prog 12 #[.slice (some ⟨b, off, none⟩) n c, .int .i64 kind] w fun e w' => IsBool e ∧ w' = w := by
  unfold maxLen at hn
  by_cases hb : 1048576 < n
  · go_enter Try.func12, Try.ntmps12
    go_wp2
    go_ret
    exact ⟨⟨_, rfl⟩, rfl⟩
  · go_enter Try.func12, Try.ntmps12
    go_wp2
    go_loop [5, 6] (fun z i => ∃ (k : Nat) (y : Int), k ≤ n ∧ 0 ≤ y ∧ y ≤ 1048576 ∧ i = .int .i64 k ∧ z = .int .i64 y) (fun _ i => n - (intOf i).toNat)
    case atStart => exact ⟨0, n, Nat.zero_le _, by omega, by omega, rfl, rfl⟩
    case round =>
      obtain ⟨k, y, hk, y0, y1, rfl, rfl⟩ := hrel
      by_cases hlt : k < n
      · have he := h k hlt
        have g0 : w.cell? ⟨b, off + k * 6, none⟩ = some (.slice (es k).ka (es k).kn (es k).kc) := he 0 _ rfl
        have g3 : w.cell? ⟨b, off + k * 6 + 3, none⟩ = some (.slice (es k).va (es k).vn (es k).vc) := he 3 _ rfl
        clear he h
        go_wp2
        all_goals first
          | (go_ret; exact ⟨⟨_, rfl⟩, rfl⟩)
          | (go_round
             case rel => exact ⟨k + 1, y + (es k).kn + (es k).vn, by omega, by omega, by omega, by go_num, by go_num⟩
             case measure => simp [intOf]; omega)
      · go_wp2
        go_ret
        exact ⟨⟨_, rfl⟩, rfl⟩

theorem zzb_nil5 (a : Option Addr) (c : Nat) (kind : Int) (w : World) : Calls Try.prog 5 #[.slice a 0 c, .int .i64 kind] w fun e w' => e = .returned (.bool true) ∧ w' = w := by
  go_enter Try.func5, Try.ntmps5
  go_wp2
  refine wp_loop_rounds 1 ?_
  rw [rounds_succ]
  go_wp2
  go_ret
  exact ⟨rfl, rfl⟩
theorem zzb_nil12 (a : Option Addr) (c : Nat) (kind : Int) (w : World) : Calls Try.prog 12 #[.slice a 0 c, .int .i64 kind] w fun e w' => e = .returned (.bool true) ∧ w' = w := by
  go_enter Try.func12, Try.ntmps12
  go_wp2
  refine wp_loop_rounds 1 ?_
  rw [rounds_succ]
  go_wp2
  go_ret
  exact ⟨rfl, rfl⟩
theorem wb_nil (a : Option Addr) (c : Nat) (w : World) : Calls Try.prog 6 #[.slice a 0 c] w fun e w' => e = .returned (.bool true) ∧ w' = w := by
  go_enter Try.func6, Try.ntmps6
  go_wp2
  refine wp_loop_rounds 1 ?_
  rw [rounds_succ]
  go_wp2
  go_ret
  exact ⟨rfl, rfl⟩

def Lows (k : Nat) (es : Nat → Rec) : Prop := ∀ i, i < k → (es i).kn ≤ 1048576 ∧ (es i).vn ≤ 1048576
theorem Lows.succ {k : Nat} {es : Nat → Rec} (h : Lows k es) (h1 : (es k).kn ≤ 1048576) (h2 : (es k).vn ≤ 1048576) : Lows (k + 1) es := by
  intro i hi
  rcases Nat.lt_succ_iff_lt_or_eq.1 hi with h3 | rfl
  · exact h i h3
  · exact ⟨h1, h2⟩

set_option maxHeartbeats 400000 in
theorem within (b off n c : Nat) (es : Nat → Rec) (w : World) (hn : n ≤ maxLen) (h : Ins w b off n es) :
    Calls Try.prog 6 #[.slice (some ⟨b, off, none⟩) n c] w fun e w' => IsBoolIf (Small n es) e ∧ w' = w := by
  unfold maxLen at hn
  by_cases hb : 16384 < n
  · by_cases hb' : 65536 < n
    · go_enter Try.func6, Try.ntmps6
      go_wp2
      go_ret
      exact ⟨⟨_, rfl, by simp⟩, rfl⟩
    · go_enter Try.func6, Try.ntmps6
      go_wp2
      go_ret
      exact ⟨⟨_, rfl, by simp⟩, rfl⟩
  · have hb' : ¬ 65536 < n := by omega
    go_enter Try.func6, Try.ntmps6
    go_wp2
    go_loop [3, 4] (fun z i => ∃ (k : Nat) (y : Int), k ≤ n ∧ 0 ≤ y ∧ y ≤ 1048576 ∧ i = .int .i64 k ∧ z = .int .i64 y ∧ Lows k es) (fun _ i => n - (intOf i).toNat)
    case atStart => exact ⟨0, _, Nat.zero_le _, by omega, by omega, rfl, rfl, fun i hi => by omega⟩
    case round =>
      obtain ⟨k, y, hk, y0, y1, rfl, rfl, hlo⟩ := hrel
      by_cases hlt : k < n
      · have he := h k hlt
        have g0 : w.cell? ⟨b, off + k * 6, none⟩ = some (.slice (es k).ka (es k).kn (es k).kc) := he 0 _ rfl
        have g3 : w.cell? ⟨b, off + k * 6 + 3, none⟩ = some (.slice (es k).va (es k).vn (es k).vc) := he 3 _ rfl
        clear he h
        by_cases c1 : y < (es k).kn
        · go_wp2
          go_ret
          exact ⟨⟨_, rfl, by simp⟩, rfl⟩
        · by_cases c2 : y - (es k).kn < (es k).vn
          · go_wp2
            go_ret
            exact ⟨⟨_, rfl, by simp⟩, rfl⟩
          · go_wp2
            go_round
            case rel => exact ⟨k + 1, y - (es k).kn - (es k).vn, by omega, by omega, by omega, by go_num, by go_num, hlo.succ (by omega) (by omega)⟩
            case measure => simp [intOf]; omega
      · go_wp2
        go_ret
        have : k = n := by omega
        subst this
        exact ⟨⟨_, rfl, fun _ => ⟨by omega, hlo⟩⟩, rfl⟩
end Go.Proofs.Qxb6631276a
