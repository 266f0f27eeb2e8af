import Derived.Test.Qxb6631276aEntry
import Derived.Deep.RegionHeld3
import Derived.Deep.RegionLawGrows
namespace Go.Proofs.Qxb6631276a
open Go.RowKit
set_option linter.unusedVariables false

theorem clip (a : Option Addr) (n c : Nat) (hn : n ≤ c) (hc : c ≤ maxLen) (w : World) :
    Calls Try.prog 16 #[.slice a n c] w fun e w' => e = .returned (.slice a n n) ∧ w' = w := by
  unfold maxLen at hc
  go_enter Try.func16, Try.ntmps16
  go_wp2
  go_ret
  exact ⟨rfl, rfl⟩

set_option maxHeartbeats 1000000 in
theorem split2 (b off n c : Nat) (r : Rec) (w : World) (h2 : 2 ≤ n) (hn : n ≤ 16384) (hc : n ≤ c) (hcm : c ≤ maxLen) (h : EntAt w b (off + 1 * 10) r) :
    Calls Try.prog 15 #[.slice (some ⟨b, off, none⟩) n c, .int .i64 2] w fun e w' =>
      e = .returned (.tuple #[.slice (some ⟨b, off, none⟩) 1 c, .slice r.ka r.kn r.kc, .slice (some ⟨b, off + 1 * 10, none⟩) (n - 1) (c - 1)]) ∧ ∃ m, w' = w.drewN m := by
  unfold maxLen at hcm
  have h0 : w.cell? ⟨b, off + 10, none⟩ = some (.slice r.ka r.kn r.kc) := h 0 _ rfl
  clear h
  have j1 : (1 : Int) < (n : Int) := by omega
  have j2 : (1 : Int) ≤ (n : Int) := by omega
  have j3 : (1 : Int) ≤ (c : Int) := by omega
  have j4 : (n : Int) ≤ (c : Int) := by omega
  go_enter Try.func15, Try.ntmps15
  go_wp2
  go_quiet (fail)
  go_wp2
  go_ret3
  exact ⟨rfl, _, rfl⟩

/-- Where a page of n records is divided at 'half': the least m from 1 on whose first m records reach half, or n - 1. -/
structure Divides (es : Nat → Rec) (n m : Nat) : Prop where
  one : 1 ≤ m
  last : m ≤ n - 1
  below : ∀ j, 1 ≤ j → j < m → acc es j < acc es n / 2
  reach : m < n - 1 → acc es n / 2 ≤ acc es m

theorem below_succ {es : Nat → Rec} {k : Nat} {x : Int} (h : ∀ j, 1 ≤ j → j < k → acc es j < x) (hk : acc es k < x) : ∀ j, 1 ≤ j → j < k + 1 → acc es j < x := by
  intro j h1 h2
  rcases Nat.lt_succ_iff_lt_or_eq.1 h2 with h3 | rfl
  · exact h j h1 h3
  · exact hk

set_option maxHeartbeats 1000000 in
theorem split0 (b off n c : Nat) (kind : Int) (es : Nat → Rec) (w : World) (k1 : kind ≠ 1) (k2 : kind ≠ 2) (h2 : 2 ≤ n) (hs : Small n es) (hc : n ≤ c) (hcm : c ≤ maxLen) (h : Leaf w b off n es) :
    Calls Try.prog 15 #[.slice (some ⟨b, off, none⟩) n c, .int .i64 kind] w fun e w' =>
      ∃ m, Divides es n m ∧ e = .returned (.tuple #[.slice (some ⟨b, off, none⟩) m c, .slice (es m).ka (es m).kn (es m).kc, .slice (some ⟨b, off + m * 10, none⟩) (n - m) (c - m)]) ∧ ∃ q, w' = w.drewN q := by
  unfold maxLen at hcm
  have hn := hs.1
  have e1 : (kind == 1) = false := by simpa using k1
  have e2 : (kind == 2) = false := by simpa using k2
  obtain ⟨a1, a2⟩ := acc_bd hs n (Nat.le_refl _)
  have h0 : EntAt w b off (es 0) := by simpa using h 0 (by omega)
  obtain ⟨s1, s2⟩ := hs.2 0 (by omega)
  obtain ⟨z1, z2⟩ := (es 0).sz_bd s1 s2
  go_enter Try.func15, Try.ntmps15
  go_wp2_with fail
  refine (leafSize b off n c es _ hs (by exact h)).mono ?_
  rintro e w' ⟨rfl, q, rfl⟩
  go_wp2_with fail
  refine (entrySize b off (es 0) _ s1 s2 (by exact h0)).mono ?_
  rintro e w' ⟨rfl, q1, rfl⟩
  clear h0 s1 s2
  go_wp2
  go_loopw [9, 10] (fun i t wr => ∃ k m : Nat, 1 ≤ k ∧ k ≤ n - 1 ∧ i = .int .i64 k ∧ t = .int .i64 (acc es k) ∧ Hid (∀ j, 1 ≤ j → j < k → acc es j < acc es n / 2) ∧ wr = w.drewN m) (fun i _ _ => n - (intOf i).toNat)
  case atStart => exact ⟨1, _, Nat.le_refl _, by omega, rfl, rfl, fun j h1 h2 => by omega, rfl⟩
  case round =>
    obtain ⟨k, m, hk1, hk, rfl, rfl, HB, rfl⟩ := hrel
    obtain ⟨b1, b2⟩ := acc_bd hs k (by omega)
    have he := h k (by omega)
    obtain ⟨s1, s2⟩ := hs.2 k (by omega)
    obtain ⟨y1, y2⟩ := (es k).sz_bd s1 s2
    by_cases hlt : k < n - 1 ∧ acc es k < acc es n / 2
    · obtain ⟨hlt, hac⟩ := hlt
      go_wp2_with (go_at_call 18; refine (entrySize b (off + k * 10) (es k) _ s1 s2 (by exact he)).mono ?_; rintro e w' ⟨rfl, q2, rfl⟩)
      go_roundw
      case rel => exact ⟨k + 1, _, by omega, by omega, by go_num, rfl, below_succ HB.out hac, rfl⟩
      case measure => simp [intOf]; omega
    · have g0 : w.cell? ⟨b, off + k * 10, none⟩ = some (.slice (es k).ka (es k).kn (es k).kc) := he 0 _ rfl
      have DV : Hid (Divides es n k) := ⟨hk1, hk, HB.out, fun h3 => by omega⟩
      have t0 : (0 : Int) ≤ (k : Int) := by omega
      have t1 : (k : Int) < (n : Int) := by omega
      have t2 : (k : Int) ≤ (n : Int) := by omega
      have t3 : (k : Int) ≤ (c : Int) := by omega
      have t4 : (n : Int) ≤ (c : Int) := by omega
      clear he
      by_cases hl : k < n - 1
      all_goals
        go_wp2
        go_quiet (fail)
        go_wp2
        go_ret3
        exact ⟨k, DV.out, rfl, m + nq, by simp⟩

theorem Try.info5 : (Try.prog.info? 5).map (fun i => (i.zero, i.size, i.bytes)) = some (some (.int .u8 0), 1, 1) := by kernel_rfl

theorem olds_at {w : World} {r : Rec} (Bk : Byt w r.ka r.kn r.k) : ∀ b, r.ka = some b → ∀ j u, (r.k.map (Value.int .u8))[j]? = some u → w.cell? (b.add j) = some u := by
  intro b hb j u hu
  have hj : j < r.k.length := by
    rcases Nat.lt_or_ge j r.k.length with h | h
    · exact h
    · rw [List.getElem?_eq_none (by simpa using h)] at hu; cases hu
  rcases Bk.cell with h0 | ⟨b', off, ha, hc⟩
  · have := Bk.len; omega
  · rw [hb] at ha
    cases ha
    have hadd : (⟨b', off, none⟩ : Addr).add j = ⟨b', off + j, none⟩ := by unfold Addr.add; split <;> simp_all
    rw [hadd, hc j (by rw [← Bk.len]; exact hj)]
    simp [hj] at hu
    rw [← hu]
    simp [List.getD, hj]

theorem olds_new {w : World} {x : Addr} {u : Value} (h : w.cell? x = some u) (o : Obj) : (w.alloc o).drew.cell? x = some u :=
  (World.cell?_of_block (Below.heap_alloc w o _ (World.block_lt_of_cell? w x h))).trans h
theorem new_zero (w : World) : ∀ j u, ([Value.int .u8 0] : List Value)[j]? = some u → (w.alloc (.cells #[.int .u8 0] 5)).drew.cell? ((⟨w.heap.size, 0, none⟩ : Addr).add j) = some u :=
  fun j u hu => World.news_of_block (w := w.alloc (.cells #[.int .u8 0] 5)) (heap_alloc_new w _) j u (by simpa using hu)

theorem owns_base {w : World} {base base' : Nat} {e : TypeId} {size : Nat} {v : Value} {n : Nat} {xs : List Value} (h : w.ownsRow base e size v n xs) (hb : base' ≤ base) : w.ownsRow base' e size v n xs := by
  refine ⟨h.1, ?_⟩
  rcases h.2 with h0 | ⟨g, cap, cur, hv, hg, r⟩
  · exact .inl h0
  · exact .inr ⟨g, cap, cur, hv, by omega, r⟩

set_option maxHeartbeats 1000000 in
theorem split1 (b off n m p c : Nat) (r : Rec) (w : World) (e1 : n = m + 1) (e2 : m = p + 1) (hn : n ≤ 16384) (hc : n ≤ c) (hcm : c ≤ maxLen) (h : EntAt w b (off + p * 10) r) (hb : b < w.heap.size)
    (hk : r.kn ≤ 1048576) (hkc : r.kn ≤ r.kc) (hkm : r.kc ≤ maxLen) (hka : r.ka = none → r.kn = 0) (Bk : Byt w r.ka r.kn r.k) :
    Calls Try.prog 15 #[.slice (some ⟨b, off, none⟩) n c, .int .i64 1] w fun e w' =>
      ∃ v', e = .returned (.tuple #[.slice (some ⟨b, off, none⟩) m c, v', .slice (some ⟨b, off + m * 10, none⟩) (n - m) (c - m)]) ∧
        w'.ownsRow w.heap.size 5 1 v' (r.kn + 1) (r.k.map (Value.int .u8) ++ [.int .u8 0]) ∧ Below w.heap.size w w' := by
  have hcm' := hcm
  unfold maxLen at hcm
  have g0 : w.cell? ⟨b, off + p * 10, none⟩ = some (.slice r.ka r.kn r.kc) := h 0 _ rfl
  obtain ⟨i0, hi, hz0, hz1, hz2⟩ := info_parts Try.info5
  have f1 : (n : Int) - 1 = (m : Int) := by omega
  have f2 : (m : Int) - 1 = (p : Int) := by omega
  have f3 : IntKind.i64.wrap (p : Int) = (p : Int) := by rw [IntWalk.i64_left, IntWalk.wrap64_in _ (by omega)]
  have j0 : (0 : Int) ≤ (p : Int) := by omega
  have j1 : (p : Int) < (n : Int) := by omega
  have j2 : (m : Int) ≤ (n : Int) := by omega
  have j3 : (m : Int) ≤ (c : Int) := by omega
  have j4 : (n : Int) ≤ (c : Int) := by omega
  have j5 : (0 : Int) ≤ (m : Int) := by omega
  have HL := olds_at Bk
  have HL' : Hid _ := HL
  have E1 : Hid _ := e1
  have E2 : Hid _ := e2
  clear h HL e1 e2
  go_enter Try.func15, Try.ntmps15
  go_wp2
  go_region_held3 (fun w' => w'.cell? ⟨b, off + p * 10, none⟩ = some (.slice r.ka r.kn r.kc)) (first | go_keep | exact hgrow.cell (olds_new g0 _) (by simp))
    (first
      | (go_at_call 16; refine (clip r.ka r.kn r.kc hkc hkm _).mono ?_; rintro e w' ⟨rfl, rfl⟩)
      | (refine step_append_grows ?_ (.tmp 26) (.tmp 27) 27 ?_ 5 i0 (.int .u8 0) 1 1 Try.underlying27 hi hz0 hz1 hz2 rfl (by decide) r.ka r.kn r.kn (r.k.map (Value.int .u8)) ?_ (fun h => ⟨hka h, hka h⟩) (by simp [Bk.len]) ?_ ⟨w.heap.size, 0, none⟩ 1 1 [.int .u8 0] ?_ rfl ?_ (by intro u hu; simp at hu; subst hu; rfl) (by omega) (by unfold maxLen; omega) (by omega) ?_; rfl; rfl; simp [Act.eval]; exact (fun b hb j u hu => olds_new (HL'.out b hb j u hu) _); simp [Act.eval]; exact new_zero w; intro v' w1 hown hgrow))
  all_goals
    go_wp2
    go_ret3
    exact ⟨v', rfl, owns_base hown (by simp), ((Below.refl w.heap.size w).alloc (Nat.le_refl _) _).drew.grown hgrow (by simp) (by simp)⟩

/-! ### ZZsplit hands on what split gives -/
theorem zzsplit {Q : Ending → World → Prop} (v : Value) (kind : Int) (w : World)
    (h : Calls Try.prog 15 #[v, .int .i64 kind] w fun e w' => (∃ x y z, e = .returned (.tuple #[x, y, z])) ∧ Q e w') : Calls Try.prog 8 #[v, .int .i64 kind] w Q := by
  have H : Hid _ := h
  clear h
  go_enter Try.func8, Try.ntmps8
  go_wp2_with fail
  refine Calls.mono H.out ?_
  rintro e w' ⟨⟨x, y, z, rfl⟩, hq⟩
  have HQ : Hid _ := hq
  clear hq
  go_wp2
  go_ret3
  exact HQ.out
end Go.Proofs.Qxb6631276a
