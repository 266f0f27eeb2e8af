import Derived.Test.Qxb6631332aInsert
namespace Go.Proofs.Qxb6631332a
open Go.RowKit
set_option linter.unusedVariables false

def Oc.turned (o : Oc) : Oc := { o with c := !o.c }
def turn (zs : Nat → Oc) (i : Nat) : Oc := (zs i).turned
theorem cnt_turn (zs : Nat → Oc) : ∀ m : Nat, cnt zs m + cnt (turn zs) m = m
  | 0 => rfl
  | m + 1 => by
    have ih := cnt_turn zs m
    have h : one (zs m).c + one (turn zs m).c = 1 := by simp only [turn, Oc.turned]; cases (zs m).c <;> rfl
    simp only [cnt]
    omega
theorem cnt_cut (zs : Nat → Oc) (q : Nat) : ∀ r : Nat, cnt zs q + cnt (fun i => zs (q + i)) r = cnt zs (q + r)
  | 0 => by simp [cnt]
  | r + 1 => by
    have ih := cnt_cut zs q r
    rw [cnt, ← Nat.add_assoc, cnt]
    omega

/-- The two rows that the law fills. -/
structure Two (w wr : World) (zs : Nat → Oc) (k j n : Nat) : Prop where
  a : wr.ownsRow w.heap.size 29 6 (.slice (some ⟨w.heap.size, 0, none⟩) k n) k (rows zs k)
  f : wr.ownsRow w.heap.size 29 6 (.slice (some ⟨w.heap.size + 1, 0, none⟩) j n) j (rows (turn zs) j)
  bel : Below w.heap.size w wr
  sz : w.heap.size + 2 ≤ wr.heap.size

theorem Two.later {w wr wa : World} {zs : Nat → Oc} {k j n : Nat} (h : Two w wr zs k j n) (hb : Below wr.heap.size wr wa) : Two w wa zs k j n :=
  ⟨owns_below h.a hb, owns_below h.f hb, h.bel.trans (hb.mono (by have := h.sz; omega)), by have := h.sz; have := hb.size; omega⟩
theorem Two.alloc {w wr : World} {zs : Nat → Oc} {k j n : Nat} (h : Two w wr zs k j n) (o : Obj) : Two w (wr.alloc o) zs k j n :=
  h.later ((Below.refl _ _).alloc (Nat.le_refl _) o)
theorem Two.addA {w wr w5 : World} {zs : Nat → Oc} {k j n : Nat} (h : Two w wr zs k j n)
    (ho : w5.ownsRow w.heap.size 29 6 (.slice (some ⟨w.heap.size, 0, none⟩) (k + 1) n) (k + 1) (rows zs k ++ (zs k).cells)) (hg : wr.grownBy w5 (some w.heap.size)) : Two w w5 zs (k + 1) j n :=
  ⟨ho, h.f.kept hg (.inr (by simp [Value.ownBlock])), h.bel.grown hg (by have := h.sz; omega) (fun i hi => by cases hi; exact Nat.le_refl _), Nat.le_trans h.sz hg.size⟩
theorem Two.addF {w wr w5 : World} {zs : Nat → Oc} {k j n : Nat} (h : Two w wr zs k j n)
    (ho : w5.ownsRow w.heap.size 29 6 (.slice (some ⟨w.heap.size + 1, 0, none⟩) (j + 1) n) (j + 1) (rows (turn zs) j ++ (turn zs j).cells)) (hg : wr.grownBy w5 (some (w.heap.size + 1))) : Two w w5 zs k (j + 1) n :=
  ⟨h.a.kept hg (.inr (by simp [Value.ownBlock])), ho, h.bel.grown hg (by have := h.sz; omega) (fun i hi => by cases hi; omega), Nat.le_trans h.sz hg.size⟩

theorem new_two (wb : World) (O : Obj) (cs : Array Value) : ∀ j u, cs.toList[j]? = some u → ((wb.alloc O).alloc (.cells cs 29)).cell? ((⟨wb.heap.size + 1, 0, none⟩ : Addr).add j) = some u :=
  World.news_of_block (t := 29) (fr := (0, 0)) (by have := heap_alloc_new (wb.alloc O) (.cells cs 29); simpa using this)
theorem two_runs {w wr : World} {zs : Nat → Oc} {n : Nat} (h : Two w wr zs n n n) : Run wr w.heap.size 0 n zs ∧ Run wr (w.heap.size + 1) 0 n (turn zs) := ⟨run_of_owns h.a, run_of_owns h.f⟩
theorem run_cut {w : World} {b n q : Nat} {zs : Nat → Oc} (h : Run w b 0 n zs) : Run w b (q * 6) (n - q) (fun i => zs (q + i)) := fun i hi j u hj => by
  have := h (q + i) (by omega) j u hj
  rwa [show q * 6 + i * 6 + j = 0 + (q + i) * 6 + j from by omega]

set_option maxRecDepth 100000 in
set_option maxHeartbeats 4000000 in
theorem comp (b off n c q : Nat) (zs : Nat → Oc) (y z : Int) (w : World) (hpos : 0 < n) (hn : n ≤ 16384) (hq : q ≤ n) (hin : Run w b off n zs) (hbw : b < w.heap.size) :
    Calls Try.prog 4 #[.slice (some ⟨b, off, none⟩) n c, .int .i64 q, .int .i64 y, .int .i64 z] w fun e w' => e = .returned (.bool true) ∧ Below w.heap.size w w' := by
  obtain ⟨i0, hi, hz0, hz1, hz2⟩ := info_parts Try.info29
  have Q1 : (0 : Int) ≤ (q : Int) := by omega
  have Q2 : (q : Int) ≤ (n : Int) := by omega
  have d1 : decide ((q : Int) < 0) = false := by simp
  have d2 : decide (n < q) = false := by simp; omega
  have d3 : decide ((16384 : Int) < (n : Int)) = false := by simp; omega
  have mk1 := mkRow n n rfl (by omega)
  go_enter Try.func4, Try.ntmps4
  go_wp2_with fail
  refine (zzb9 (some ⟨b, off, none⟩) n c q y z _ (by unfold maxLen; omega)).mono ?_
  rintro e w1 ⟨⟨x, rfl⟩, hw1⟩
  subst hw1
  cases x
  · go_wp2
    go_ret
    exact ⟨rfl, Below.refl _ _⟩
  have start : Two w1 ((w1.alloc (.cells (blank n) 29)).alloc (.cells (blank n) 29)) zs 0 0 n := by
    have hm : n ≤ maxLen := by unfold maxLen; omega
    refine ⟨(World.ownsRow_made w1 _ n (Nat.le_refl _) hm (blank_size n)).alloc _, ?_, ((Below.refl _ _).alloc (Nat.le_refl _) _).alloc (by simp) _, by simp⟩
    have := World.ownsRow_made (base := w1.heap.size) (e := 29) (size := 6) (w1.alloc (.cells (blank n) 29)) (blank n) n (by simp) hm (blank_size n)
    simpa [rows] using this
  have START : Hid _ := start
  clear start
  go_wp2
  clear mk1
  go_loopw [9, 10, 11] (fun v u i wr => ∃ k : Nat, k ≤ n ∧ i = .int .i64 k ∧ v = .slice (some ⟨w1.heap.size, 0, none⟩) k n ∧ u = .slice (some ⟨w1.heap.size + 1, 0, none⟩) k n ∧ Two w1 wr zs k k n) (fun _ _ i _ => n - (intOf i).toNat)
  case atStart => exact ⟨0, Nat.zero_le _, rfl, rfl, rfl, START.out⟩
  case round =>
  clear START
  obtain ⟨k, hk, rfl, rfl, rfl, two⟩ := hrel
  by_cases hlt : k < n
  · have gc : ∀ j u, (zs k).cells[j]? = some u → wr.cell? ⟨b, off + k * 6 + j, none⟩ = some u := fun j u hj => (two.bel.cell (p := ⟨b, off + k * 6 + j, none⟩) hbw).trans (hin k hlt j u hj)
    have g0 : wr.cell? ⟨b, off + k * 6, none⟩ = some (.bool (zs k).d) := gc 0 _ rfl
    have g1 : wr.cell? ⟨b, off + k * 6 + 1, none⟩ = some (.int .i64 (zs k).n) := gc 1 _ rfl
    have g2 : wr.cell? ⟨b, off + k * 6 + 2, none⟩ = some (.int .i64 (zs k).t) := gc 2 _ rfl
    have g3 : wr.cell? ⟨b, off + k * 6 + 3, none⟩ = some (.bool (zs k).c) := gc 3 _ rfl
    have g4 : wr.cell? ⟨b, off + k * 6 + 4, none⟩ = some (.bool (zs k).r) := gc 4 _ rfl
    have g5 : wr.cell? ⟨b, off + k * 6 + 5, none⟩ = some (.bool (zs k).x) := gc 5 _ rfl
    clear gc
    go_wp2_with fail
    refine (toSim (zs k) _).mono ?_
    rintro e wa ⟨rfl, hba⟩
    have twa := two.later hba
    clear g0 g1 g2 g3 g4 g5 two hba
    go_wp2_with (at_builtin; refine wpList_append_fits _ rfl (.tmp 46) (.tmp 52) 26 rfl w1.heap.size 29 i0 6 Try.underlying26 hi hz1 w1.heap.size k n (rows zs k) rfl (twa.alloc _).a ⟨wa.heap.size, 0, none⟩ 1 1 (zs k).cells rfl rfl (World.news_of_block (heap_alloc_new wa _)) (cells_one _) (by omega) ?_)
    intro w5 own5 grow5
    have tw5 := (twa.alloc _).addA own5 grow5
    have gc : ∀ j u, (zs k).cells[j]? = some u → w5.cell? ⟨b, off + k * 6 + j, none⟩ = some u := fun j u hj => (tw5.bel.cell (p := ⟨b, off + k * 6 + j, none⟩) hbw).trans (hin k hlt j u hj)
    have g0 : w5.cell? ⟨b, off + k * 6, none⟩ = some (.bool (zs k).d) := gc 0 _ rfl
    have g1 : w5.cell? ⟨b, off + k * 6 + 1, none⟩ = some (.int .i64 (zs k).n) := gc 1 _ rfl
    have g2 : w5.cell? ⟨b, off + k * 6 + 2, none⟩ = some (.int .i64 (zs k).t) := gc 2 _ rfl
    have g3 : w5.cell? ⟨b, off + k * 6 + 3, none⟩ = some (.bool (zs k).c) := gc 3 _ rfl
    have g4 : w5.cell? ⟨b, off + k * 6 + 4, none⟩ = some (.bool (zs k).r) := gc 4 _ rfl
    have g5 : w5.cell? ⟨b, off + k * 6 + 5, none⟩ = some (.bool (zs k).x) := gc 5 _ rfl
    clear gc own5 grow5 twa
    go_wp2_with fail
    refine (toSim (zs k) _).mono ?_
    rintro e wb ⟨rfl, hbb⟩
    have twb := tw5.later hbb
    have g3b : ∀ o, (wb.alloc o).cell? ⟨b, off + k * 6 + 3, none⟩ = some (.bool (zs k).c) := fun o => ((twb.alloc o).bel.cell (p := ⟨b, off + k * 6 + 3, none⟩) hbw).trans (hin k hlt 3 _ rfl)
    clear g0 g1 g2 g3 g4 g5 tw5 hbb
    go_wp2_with (at_builtin; refine wpList_append_fits _ rfl (.tmp 66) (.tmp 68) 26 rfl w1.heap.size 29 i0 6 Try.underlying26 hi hz1 (w1.heap.size + 1) k n (rows (turn zs) k) rfl ((twb.alloc _).alloc _).f ⟨wb.heap.size + 1, 0, none⟩ 1 1 (turn zs k).cells rfl rfl (new_two wb _ _) (cells_one _) (by omega) ?_)
    intro w7 own7 grow7
    have tw7 : Hid _ := ((twb.alloc _).alloc _).addF own7 grow7
    clear own7 grow7 twb g3b
    go_wp2
    go_roundw
    case rel => exact ⟨k + 1, by omega, by go_num, rfl, rfl, tw7.out⟩
    case measure => simp [intOf]; omega
  have hkn : n = k := by omega
  subst hkn
  clear hk hlt
  obtain ⟨ra, rf⟩ := two_runs two
  have b0 := two.bel
  have s0 := two.sz
  obtain ⟨a1, a2⟩ := cnt_bd zs n
  obtain ⟨a3, a4⟩ := cnt_bd (turn zs) n
  have e1 := cnt_turn zs n
  have E1 : Hid _ := e1
  clear two e1 hin
  go_wp2_with fail
  refine (crashes w1.heap.size 0 n n zs y z _ (by omega) ra).mono ?_
  rintro e w6 ⟨rfl, hb6⟩
  have kc := below_cells hb6
  have b6 := b0.trans (hb6.mono (by omega))
  have s6 : w1.heap.size + 2 ≤ w6.heap.size := by have := hb6.size; omega
  replace ra := ra.same kc
  replace rf := rf.same kc
  clear kc hb6 b0 s0
  go_wp2_with fail
  refine (crashes (w1.heap.size + 1) 0 n n (turn zs) y z _ (by omega) rf).mono ?_
  rintro e w7 ⟨rfl, hb7⟩
  have kc := below_cells hb7
  have b7 := b6.trans (hb7.mono (by omega))
  have s7 : w1.heap.size + 2 ≤ w7.heap.size := by have := hb7.size; omega
  replace ra := ra.same kc
  clear kc hb7 b6 s6 rf
  have rl : Run w7 w1.heap.size 0 q zs := fun i hi => ra i (by omega)
  go_wp2_with fail
  refine (crashes w1.heap.size 0 q n zs y z _ (by omega) rl).mono ?_
  rintro e w8 ⟨rfl, hb8⟩
  have kc := below_cells hb8
  have b8 := b7.trans (hb8.mono (by omega))
  have s8 : w1.heap.size + 2 ≤ w8.heap.size := by have := hb8.size; omega
  replace ra := ra.same kc
  clear kc hb8 b7 s7 rl
  obtain ⟨a5, a6⟩ := cnt_bd zs q
  by_cases hqn : q = n
  · subst hqn
    go_wp2_with fail
    refine (crashes_nil _ _ y z _).mono ?_
    rintro e w9 ⟨rfl, hb9⟩
    have b9 := b8.trans (hb9.mono (by omega))
    have e1 := E1.out
    clear hb9 b8 s8 ra
    go_wp2
    go_ret
    exact ⟨rfl, b9⟩
  · have rr := run_cut (q := q) ra
    have e2 := cnt_cut zs q (n - q)
    rw [show q + (n - q) = n by omega] at e2
    have E2 : Hid _ := e2
    clear e2
    obtain ⟨a7, a8⟩ := cnt_bd (fun i => zs (q + i)) (n - q)
    go_wp2_with fail
    refine (crashes w1.heap.size (q * 6) (n - q) (n - q) (fun i => zs (q + i)) y z _ (by omega) rr).mono ?_
    rintro e w9 ⟨rfl, hb9⟩
    have b9 := b8.trans (hb9.mono (by omega))
    have e1 := E1.out
    have e2 := E2.out
    clear hb9 b8 s8 ra rr
    go_wp2
    go_ret
    exact ⟨rfl, b9⟩

set_option maxRecDepth 100000 in
set_option maxHeartbeats 4000000 in
theorem comp_nil (a : Option Addr) (c : Nat) (y z : Int) (w : World) :
    Calls Try.prog 4 #[.slice a 0 c, .int .i64 0, .int .i64 y, .int .i64 z] w fun e w' => e = .returned (.bool true) ∧ Below w.heap.size w w' := by
  have mk1 := mkRow 0 0 rfl (by omega)
  go_enter Try.func4, Try.ntmps4
  go_wp2_with fail
  refine (zzb9 a 0 c 0 y z _ (by unfold maxLen; omega)).mono ?_
  rintro e w1 ⟨⟨x, rfl⟩, hw1⟩
  subst hw1
  cases x
  · go_wp2
    go_ret
    exact ⟨rfl, Below.refl _ _⟩
  go_wp2
  refine wp_loop_rounds 1 ?_
  rw [rounds_succ]
  obtain ⟨wr, WR⟩ : ∃ wr, Hid (wr = (w1.alloc (.cells (blank 0) 29)).alloc (.cells (blank 0) 29)) := ⟨_, rfl⟩
  have b0 : Below w1.heap.size w1 wr := by rw [WR.out]; exact ((Below.refl _ _).alloc (Nat.le_refl _) _).alloc (by simp) _
  rw [← WR.out]
  clear WR mk1
  go_wp2_with fail
  refine (crashes_nil _ _ y z _).mono ?_
  rintro e w6 ⟨rfl, hb6⟩
  have b6 := b0.trans (hb6.mono b0.size)
  clear hb6 b0
  go_wp2_with fail
  refine (crashes_nil _ _ y z _).mono ?_
  rintro e w7 ⟨rfl, hb7⟩
  have b7 := b6.trans (hb7.mono b6.size)
  clear hb7 b6
  go_wp2_with fail
  refine (crashes_nil _ _ y z _).mono ?_
  rintro e w8 ⟨rfl, hb8⟩
  have b8 := b7.trans (hb8.mono b7.size)
  clear hb8 b7
  go_wp2_with fail
  refine (crashes_nil _ _ y z _).mono ?_
  rintro e w9 ⟨rfl, hb9⟩
  have b9 := b8.trans (hb9.mono b8.size)
  clear hb9 b8
  go_wp2
  go_ret
  exact ⟨rfl, b9⟩
end Go.Proofs.Qxb6631332a
