import Derived.Test.Qxb6631276aBytes
namespace Go.Proofs.Qxb6631276a
open Go.RowKit
set_option linter.unusedVariables false

/-! ### What a record takes on a page -/
def vsz (f s : Int) (vn : Nat) : Int := if f = 0 ∧ s = 0 then vn else 8
theorem vsz_bd (f s : Int) (vn : Nat) (h : vn ≤ 1048576) : 0 ≤ vsz f s vn ∧ vsz f s vn ≤ 1048576 := by unfold vsz; split <;> omega

theorem valueSize (b p vn vc : Nat) (va : Option Addr) (f s : Int) (w : World)
    (h4 : w.cell? ⟨b, p + 4, none⟩ = some (.slice va vn vc)) (h5 : w.cell? ⟨b, p + 5, none⟩ = some (.int .u32 f)) (h6 : w.cell? ⟨b, p + 5 + 1, none⟩ = some (.int .u32 s)) :
    Calls Try.prog 20 #[.pointer (some ⟨b, p, none⟩)] w fun e w' => e = .returned (.int .i64 (vsz f s vn)) ∧ w' = w := by
  by_cases h : f = 0 ∧ s = 0
  · obtain ⟨rfl, rfl⟩ := h
    go_enter Try.func20, Try.ntmps20
    go_wp2
    go_ret
    exact ⟨rfl, rfl⟩
  · have e : vsz f s vn = 8 := by unfold vsz; rw [if_neg h]
    rw [e]
    go_enter Try.func20, Try.ntmps20
    go_wp2
    all_goals
      go_ret
      exact ⟨rfl, rfl⟩

theorem versionSize (b p vn vc : Nat) (va : Option Addr) (f s : Int) (w : World) (hv : vn ≤ 1048576)
    (h4 : w.cell? ⟨b, p + 4, none⟩ = some (.slice va vn vc)) (h5 : w.cell? ⟨b, p + 5, none⟩ = some (.int .u32 f)) (h6 : w.cell? ⟨b, p + 5 + 1, none⟩ = some (.int .u32 s)) :
    Calls Try.prog 19 #[.pointer (some ⟨b, p, none⟩)] w fun e w' => e = .returned (.int .i64 (17 + vsz f s vn)) ∧ w' = w := by
  obtain ⟨b1, b2⟩ := vsz_bd f s vn hv
  go_enter Try.func19, Try.ntmps19
  go_wp2_with (go_at_call 20; refine (valueSize b p vn vc va f s _ h4 h5 h6).mono ?_; rintro e w' ⟨rfl, rfl⟩)
  go_ret
  exact ⟨rfl, rfl⟩

/-! ### A record -/
structure Rec where
  ka : Option Addr
  kn : Nat
  kc : Nat
  k : List Int
  txn : Int
  del : Bool
  va : Option Addr
  vn : Nat
  vc : Nat
  v : List Int
  f : Int
  s : Int
def Rec.cells (r : Rec) : List Value := [.slice r.ka r.kn r.kc, .int .u64 r.txn, .bool r.del, .int .u32 0, .int .u16 0, .slice r.va r.vn r.vc, .int .u32 r.f, .int .u32 r.s, .int .u32 0, .slice none 0 0]
def Rec.sz (r : Rec) : Int := 2 + r.kn + (17 + vsz r.f r.s r.vn)
/-- The record r lies in w as an entry, from cell q of block b on. -/
def EntAt (w : World) (b q : Nat) (r : Rec) : Prop := ∀ j u, r.cells[j]? = some u → w.cell? ⟨b, q + j, none⟩ = some u
theorem Rec.sz_bd (r : Rec) (hk : r.kn ≤ 1048576) (hv : r.vn ≤ 1048576) : 0 ≤ r.sz ∧ r.sz ≤ 2097200 := by
  have := vsz_bd r.f r.s r.vn hv
  unfold Rec.sz
  omega

theorem entrySize (b q : Nat) (r : Rec) (w : World) (hk : r.kn ≤ 1048576) (hv : r.vn ≤ 1048576) (h : EntAt w b q r) :
    Calls Try.prog 18 #[.pointer (some ⟨b, q, none⟩)] w fun e w' => e = .returned (.int .i64 r.sz) ∧ ∃ m, w' = w.drewN m := by
  obtain ⟨b1, b2⟩ := vsz_bd r.f r.s r.vn hv
  have h0 : w.cell? ⟨b, q, none⟩ = some (.slice r.ka r.kn r.kc) := h 0 _ rfl
  have h4 : w.cell? ⟨b, q + 1 + 4, none⟩ = some (.slice r.va r.vn r.vc) := h 5 _ rfl
  have h5 : w.cell? ⟨b, q + 1 + 5, none⟩ = some (.int .u32 r.f) := h 6 _ rfl
  have h6 : w.cell? ⟨b, q + 1 + 5 + 1, none⟩ = some (.int .u32 r.s) := h 7 _ rfl
  clear h
  unfold Rec.sz
  go_enter Try.func18, Try.ntmps18
  go_wp2
  go_quiet (first | (go_at_call 19; exact Calls.quiet_of_same (versionSize b (q + 1) r.vn r.vc r.va r.f r.s _ hv h4 h5 h6)))
  go_wp2
  go_ret
  exact ⟨rfl, _, rfl⟩

/-! ### A leaf: n records in a row -/
def Leaf (w : World) (b off n : Nat) (es : Nat → Rec) : Prop := ∀ i, i < n → EntAt w b (off + i * 10) (es i)
def Small (n : Nat) (es : Nat → Rec) : Prop := n ≤ 16384 ∧ ∀ i, i < n → (es i).kn ≤ 1048576 ∧ (es i).vn ≤ 1048576
/-- The page's bytes, of the first m records. -/
def acc (es : Nat → Rec) : Nat → Int
  | 0 => 4
  | m + 1 => acc es m + (es m).sz
theorem acc_bd {n : Nat} {es : Nat → Rec} (hs : Small n es) : ∀ m, m ≤ n → 4 ≤ acc es m ∧ acc es m ≤ 4 + m * 2097200
  | 0, _ => by simp [acc]
  | m + 1, h => by
    have ih := acc_bd hs m (by omega)
    have := (es m).sz_bd (hs.2 m (by omega)).1 (hs.2 m (by omega)).2
    simp only [acc]
    omega

set_option maxHeartbeats 400000 in
theorem leafSize (b off n c : Nat) (es : Nat → Rec) (w : World) (hs : Small n es) (h : Leaf w b off n es) :
    Calls Try.prog 17 #[.slice (some ⟨b, off, none⟩) n c] w fun e w' => e = .returned (.int .i64 (acc es n)) ∧ ∃ m, w' = w.drewN m := by
  have hn := hs.1
  go_enter Try.func17, Try.ntmps17
  go_wp2
  go_loopw [3, 7] (fun t i wr => ∃ k m : Nat, k ≤ n ∧ i = .int .i64 k ∧ t = .int .i64 (acc es k) ∧ wr = w.drewN m) (fun _ i _ => n - (intOf i).toNat)
  case atStart => exact ⟨0, 0, Nat.zero_le _, rfl, rfl, rfl⟩
  case round =>
    obtain ⟨k, m, hk, rfl, rfl, rfl⟩ := hrel
    obtain ⟨a1, a2⟩ := acc_bd hs k hk
    by_cases hlt : k < n
    · have he := h k hlt
      obtain ⟨s1, s2⟩ := hs.2 k hlt
      obtain ⟨z1, z2⟩ := (es k).sz_bd s1 s2
      go_wp2_with (go_at_call 18; refine (entrySize b (off + k * 10) (es k) _ s1 s2 (by exact he)).mono ?_; rintro e w' ⟨rfl, q, rfl⟩)
      go_roundw
      case rel => exact ⟨k + 1, _, by omega, by go_num, rfl, rfl⟩
      case measure => simp [intOf]; omega
    · go_wp2
      go_ret
      have : k = n := by omega
      subst this
      exact ⟨rfl, _, rfl⟩

/-! ### entryBytes: the law's own count. The struct comes by value: it is boxed -/
theorem entryBytes (r : Rec) (w : World) (hk : r.kn ≤ 1048576) (hv : r.vn ≤ 1048576) :
    Calls Try.prog 10 #[.agg #[.slice r.ka r.kn r.kc, .int .u64 r.txn, .bool r.del, .slice r.va r.vn r.vc, .int .u32 r.f, .int .u32 r.s]] w fun e w' => e = .returned (.int .i64 r.sz) ∧ Below w.heap.size w w' := by
  by_cases h1 : r.f = 0
  · by_cases h2 : r.s = 0
    · go_enter Try.func10, Try.ntmps10
      go_wp2
      go_ret
      exact ⟨ret_int (by simp [Rec.sz, vsz, h1, h2]; omega), (Below.refl _ _).alloc (Nat.le_refl _) _⟩
    · go_enter Try.func10, Try.ntmps10
      go_wp2
      go_ret
      exact ⟨ret_int (by simp [Rec.sz, vsz, h1, h2]; omega), (Below.refl _ _).alloc (Nat.le_refl _) _⟩
  · go_enter Try.func10, Try.ntmps10
    go_wp2
    go_ret
    exact ⟨ret_int (by simp [Rec.sz, vsz, h1]; omega), (Below.refl _ _).alloc (Nat.le_refl _) _⟩

end Go.Proofs.Qxb6631276a
