import Derived.Test.Qxb6631332aRows
import Derived.WalkKit
import Derived.WalkSpells
import Derived.Deep.AppendLies
namespace Go.Proofs.Qxb6631332a
open Go.RowKit
set_option linter.unusedVariables false

theorem ret_int {k : IntKind} {a b : Int} (h : a = b) : Ending.returned (.int k a) = .returned (.int k b) := by rw [h]

/-! ### An outcome -/
structure Oc where
  d : Bool
  n : Int
  t : Int
  c : Bool
  r : Bool
  x : Bool
def Oc.cells (o : Oc) : List Value := [.bool o.d, .int .i64 o.n, .int .i64 o.t, .bool o.c, .bool o.r, .bool o.x]
/-- The outcome o lies in w from cell q of block b on. -/
def OcAt (w : World) (b q : Nat) (o : Oc) : Prop := ∀ j u, o.cells[j]? = some u → w.cell? ⟨b, q + j, none⟩ = some u
/-- n outcomes in a row. -/
def Run (w : World) (b off n : Nat) (zs : Nat → Oc) : Prop := ∀ i, i < n → OcAt w b (off + i * 6) (zs i)
theorem Run.same {w w' : World} {b off n : Nat} {zs : Nat → Oc} (h : Run w b off n zs) (hw : ∀ x v, w.cell? x = some v → w'.cell? x = some v) : Run w' b off n zs :=
  fun i hi j u hj => hw _ _ (h i hi j u hj)
theorem Run.below {w w' : World} {B b off n : Nat} {zs : Nat → Oc} (h : Run w b off n zs) (hb : Below B w w') (hlt : b < B) : Run w' b off n zs :=
  fun i hi j u hj => (hb.cell (p := ⟨b, off + i * 6 + j, none⟩) hlt).trans (h i hi j u hj)
theorem below_cells {w w' : World} (h : Below w.heap.size w w') : ∀ x v, w.cell? x = some v → w'.cell? x = some v :=
  fun x v hx => (h.cell (World.block_lt_of_cell? w x hx)).trans hx

/-! ### How many crashed -/
def one (b : Bool) : Int := if b then 1 else 0
theorem one_bd (b : Bool) : 0 ≤ one b ∧ one b ≤ 1 := by cases b <;> simp [one]
def cnt (zs : Nat → Oc) : Nat → Int
  | 0 => 0
  | m + 1 => cnt zs m + one (zs m).c
theorem cnt_bd (zs : Nat → Oc) : ∀ m : Nat, 0 ≤ cnt zs m ∧ cnt zs m ≤ m
  | 0 => by simp [cnt]
  | m + 1 => by
    have := cnt_bd zs m
    have := one_bd (zs m).c
    simp only [cnt]
    omega

theorem ones10 (b : Bool) (w : World) : Calls Try.prog 10 #[.bool b] w fun e w' => e = .returned (.int .i64 (one b)) ∧ w' = w := by
  cases b
  all_goals
    go_enter Try.func10, Try.ntmps10
    go_wp2
    go_ret
    exact ⟨rfl, rfl⟩
theorem ones8 (b : Bool) (w : World) : Calls Try.prog 8 #[.bool b] w fun e w' => e = .returned (.int .i64 (one b)) ∧ w' = w := by
  cases b
  all_goals
    go_enter Try.func8, Try.ntmps8
    go_wp2
    go_ret
    exact ⟨rfl, rfl⟩

def IsBool (e : Ending) : Prop := ∃ x, e = .returned (.bool x)
theorem zzb5 (a : Option Addr) (n c : Nat) (o : Oc) (x y z : Int) (w : World) (hn : n ≤ maxLen) :
    Calls Try.prog 5 #[.slice a n c, .agg #[.bool o.d, .int .i64 o.n, .int .i64 o.t, .bool o.c, .bool o.r, .bool o.x], .int .i64 x, .int .i64 y, .int .i64 z] w fun e w' => IsBool e ∧ Below w.heap.size w w' := by
  unfold maxLen at hn
  by_cases hb : 1048576 < n
  all_goals
    go_enter Try.func5, Try.ntmps5
    go_wp2
    go_ret
    exact ⟨⟨_, rfl⟩, (Below.refl _ _).alloc (Nat.le_refl _) _⟩
theorem zzb9 (a : Option Addr) (n c : Nat) (x y z : Int) (w : World) (hn : n ≤ maxLen) :
    Calls Try.prog 9 #[.slice a n c, .int .i64 x, .int .i64 y, .int .i64 z] w fun e w' => IsBool e ∧ w' = w := by
  unfold maxLen at hn
  by_cases hb : 1048576 < n
  all_goals
    go_enter Try.func9, Try.ntmps9
    go_wp2
    go_ret
    exact ⟨⟨_, rfl⟩, rfl⟩

theorem toSim (o : Oc) (w : World) :
    Calls Try.prog 6 #[.agg #[.bool o.d, .int .i64 o.n, .int .i64 o.t, .bool o.c, .bool o.r, .bool o.x]] w fun e w' =>
      e = .returned (.agg #[.bool o.d, .int .i64 o.n, .int .i64 o.t, .bool o.c, .bool o.r, .bool o.x]) ∧ Below w.heap.size w w' := by
  go_enter Try.func6, Try.ntmps6
  go_wp2
  exact bodyPost_ret (v := .agg #[.bool o.d, .int .i64 o.n, .int .i64 o.t, .bool o.c, .bool o.r, .bool o.x]) (by simp [results, Try.results6, go_sem]) rfl ⟨rfl, ((Below.refl _ _).alloc (Nat.le_refl _) _).alloc (by simp) _⟩

set_option maxHeartbeats 400000 in
theorem crashes (b off n c : Nat) (zs : Nat → Oc) (y z : Int) (w : World) (hn : n ≤ 32768) (h : Run w b off n zs) :
    Calls Try.prog 7 #[.agg #[.slice (some ⟨b, off, none⟩) n c, .int .i64 y, .int .i64 z]] w fun e w' => e = .returned (.int .i64 (cnt zs n)) ∧ Below w.heap.size w w' := by
  by_cases h0 : n = 0
  · subst h0
    go_enter Try.func7, Try.ntmps7
    go_wp2
    refine wp_loop_rounds 1 ?_
    rw [rounds_succ]
    go_wp2
    go_ret
    exact ⟨rfl, (Below.refl _ _).alloc (Nat.le_refl _) _⟩
  have hbw : b < w.heap.size := World.block_lt_of_cell? w ⟨b, off + 0 * 6 + 0, none⟩ (h 0 (by omega) 0 _ rfl)
  go_enter Try.func7, Try.ntmps7
  go_wp2
  go_loopw [3, 9] (fun t i wr => ∃ k : Nat, k ≤ n ∧ i = .int .i64 k ∧ t = .int .i64 (cnt zs k) ∧ Below w.heap.size w wr) (fun _ i _ => n - (intOf i).toNat)
  case atStart => exact ⟨0, Nat.zero_le _, rfl, rfl, (Below.refl _ _).alloc (Nat.le_refl _) _⟩
  case round =>
    obtain ⟨k, hk, rfl, rfl, hbel⟩ := hrel
    obtain ⟨a1, a2⟩ := cnt_bd zs k
    by_cases hlt : k < n
    · obtain ⟨a3, a4⟩ := one_bd (zs k).c
      have gc : ∀ j u, (zs k).cells[j]? = some u → wr.cell? ⟨b, off + k * 6 + j, none⟩ = some u := fun j u hj => (hbel.cell (p := ⟨b, off + k * 6 + j, none⟩) hbw).trans (h k hlt j u hj)
      have g0 : wr.cell? ⟨b, off + k * 6, none⟩ = some (.bool (zs k).d) := gc 0 _ rfl
      have g1 : wr.cell? ⟨b, off + k * 6 + 1, none⟩ = some (.int .i64 (zs k).n) := gc 1 _ rfl
      have g2 : wr.cell? ⟨b, off + k * 6 + 2, none⟩ = some (.int .i64 (zs k).t) := gc 2 _ rfl
      have g3 : wr.cell? ⟨b, off + k * 6 + 3, none⟩ = some (.bool (zs k).c) := gc 3 _ rfl
      have g4 : wr.cell? ⟨b, off + k * 6 + 4, none⟩ = some (.bool (zs k).r) := gc 4 _ rfl
      have g5 : wr.cell? ⟨b, off + k * 6 + 5, none⟩ = some (.bool (zs k).x) := gc 5 _ rfl
      clear gc
      have R : Hid (∀ o, Below w.heap.size w (wr.alloc o)) := fun o => hbel.alloc hbel.size o
      clear hbel
      go_wp2_with (go_at_call 10; refine (ones10 (zs k).c _).mono ?_; rintro e w' ⟨rfl, rfl⟩)
      go_roundw
      case rel => exact ⟨k + 1, by omega, by go_num, rfl, R.out _⟩
      case measure => simp [intOf]; omega
    · go_wp2
      go_ret
      have : k = n := by omega
      subst this
      exact ⟨rfl, hbel⟩

theorem crashes_nil (a : Option Addr) (c : Nat) (y z : Int) (w : World) :
    Calls Try.prog 7 #[.agg #[.slice a 0 c, .int .i64 y, .int .i64 z]] w fun e w' => e = .returned (.int .i64 0) ∧ Below w.heap.size w w' := by
  go_enter Try.func7, Try.ntmps7
  go_wp2
  refine wp_loop_rounds 1 ?_
  rw [rounds_succ]
  go_wp2
  go_ret
  exact ⟨rfl, (Below.refl _ _).alloc (Nat.le_refl _) _⟩
end Go.Proofs.Qxb6631332a
