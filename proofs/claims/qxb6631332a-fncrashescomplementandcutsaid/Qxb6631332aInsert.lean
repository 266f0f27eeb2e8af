import Derived.Test.Qxb6631332aBase
namespace Go.Proofs.Qxb6631332a
open Go.RowKit
set_option linter.unusedVariables false

theorem Try.info29 : (Try.prog.info? 29).map (fun i => (i.zero, i.size, i.bytes)) = some (some (.agg #[.bool false, .int .i64 0, .int .i64 0, .bool false, .bool false, .bool false]), 6, 32) := by kernel_rfl

theorem cells_one (o : Oc) : ∀ u ∈ o.cells, u.oneCell' = true := by
  intro u hu
  simp [Oc.cells] at hu
  rcases hu with rfl | rfl | rfl | rfl | rfl | rfl <;> rfl

/-! ### A row of outcomes that the law builds -/
def rows (zs : Nat → Oc) : Nat → List Value
  | 0 => []
  | m + 1 => rows zs m ++ (zs m).cells
theorem cells_len (o : Oc) : o.cells.length = 6 := rfl
theorem rows_len (zs : Nat → Oc) : ∀ m, (rows zs m).length = m * 6
  | 0 => rfl
  | m + 1 => by simp only [rows, List.length_append, rows_len zs m, cells_len]; omega
theorem rows_get (zs : Nat → Oc) : ∀ m i j, i < m → j < 6 → (rows zs m)[i * 6 + j]? = (zs i).cells[j]?
  | 0, i, j, h, _ => by omega
  | m + 1, i, j, h, hj => by
    simp only [rows]
    rcases Nat.lt_succ_iff_lt_or_eq.1 h with h1 | rfl
    · rw [List.getElem?_append_left (by rw [rows_len]; omega)]
      exact rows_get zs m i j h1 hj
    · rw [List.getElem?_append_right (by rw [rows_len]; omega), rows_len]
      congr 1
      omega
theorem run_of_owns {w : World} {base g n cap : Nat} {zs : Nat → Oc} (h : w.ownsRow base 29 6 (.slice (some ⟨g, 0, none⟩) n cap) n (rows zs n)) : Run w g 0 n zs := by
  intro i hi j u hj
  have hj6 : j < 6 := by
    rcases Nat.lt_or_ge j 6 with h1 | h1
    · exact h1
    · rw [List.getElem?_eq_none (by rw [cells_len]; exact h1)] at hj; cases hj
  have := h.cells (g := g) rfl (i * 6 + j) u (by rw [rows_get zs n i j hi hj6]; exact hj)
  have hadd : (⟨g, 0, none⟩ : Addr).add (i * 6 + j) = ⟨g, 0 + i * 6 + j, none⟩ := by unfold Addr.add; split <;> simp_all
  rwa [hadd] at this
theorem rows_congr {zs zs' : Nat → Oc} : ∀ {m : Nat}, (∀ i, i < m → zs i = zs' i) → rows zs m = rows zs' m
  | 0, _ => rfl
  | m + 1, h => by simp only [rows]; rw [rows_congr (fun i hi => h i (by omega)), h m (by omega)]

theorem owns_below {w w' : World} {base : Nat} {e : TypeId} {size : Nat} {v : Value} {n : Nat} {xs : List Value} (h : w.ownsRow base e size v n xs) (hb : Below w.heap.size w w') : w'.ownsRow base e size v n xs := by
  refine ⟨h.1, ?_⟩
  rcases h.2 with h0 | ⟨g, cap, cur, rfl, hg, hh, r⟩
  · exact .inl h0
  · exact .inr ⟨g, cap, cur, rfl, hg, (hb.block g (Array.getElem?_eq_some_iff.1 hh).1).trans hh, r⟩

/-- One append behind zzToSim: wr: the world of the round; wa: behind zzToSim; w1: behind the append. -/
theorem add_step {B : Nat} {w0 wr wa w1 : World} {v v' : Value} {k : Nat} {o : Oc} {xs : List Value} {O : Obj}
    (hown : wr.ownsRow B 29 6 v k xs) (hbel : Below B w0 wr) (hB : B ≤ wr.heap.size) (hb : Below wr.heap.size wr wa)
    (hown' : w1.ownsRow B 29 6 v' (k + 1) (xs ++ o.cells)) (hgrow : (wa.alloc O).grownBy w1 v.ownBlock) :
    w1.ownsRow B 29 6 v' (k + 1) (xs ++ o.cells) ∧ Below B w0 w1 ∧ B ≤ w1.heap.size := by
  have hs := hb.size
  have hs1 := hgrow.size
  simp at hs1
  refine ⟨hown', ((hbel.trans (hb.mono hB)).alloc (by omega) O).grown hgrow (by simp; omega) (fun j hj => (hown.lt j hj).1), by omega⟩

/-- The outcomes with o put in at place q. -/
def put (zs : Nat → Oc) (q : Nat) (o : Oc) (j : Nat) : Oc := if j < q then zs j else if j = q then o else zs (j - 1)
theorem put_lo (zs : Nat → Oc) (q : Nat) (o : Oc) {j : Nat} (h : j < q) : put zs q o j = zs j := by simp [put, h]
theorem put_at (zs : Nat → Oc) (q : Nat) (o : Oc) : put zs q o q = o := by simp [put]
theorem put_hi (zs : Nat → Oc) (q : Nat) (o : Oc) {j : Nat} (h : q ≤ j) : put zs q o (j + 1) = zs j := by
  simp only [put]
  rw [if_neg (by omega), if_neg (by omega)]
  rfl
theorem rows_put_lo (zs : Nat → Oc) (q : Nat) (o : Oc) {k : Nat} (h : k < q) : rows (put zs q o) (k + 1) = rows (put zs q o) k ++ (zs k).cells := by simp only [rows]; rw [put_lo zs q o h]
theorem rows_put_at (zs : Nat → Oc) (q : Nat) (o : Oc) : rows (put zs q o) (q + 1) = rows (put zs q o) q ++ o.cells := by simp only [rows]; rw [put_at]
theorem rows_put_hi (zs : Nat → Oc) (q : Nat) (o : Oc) {k : Nat} (h : q ≤ k) : rows (put zs q o) (k + 1 + 1) = rows (put zs q o) (k + 1) ++ (zs k).cells := by
  rw [rows, put_hi zs q o h]
theorem cnt_put_lo (zs : Nat → Oc) (q : Nat) (o : Oc) : ∀ k, k ≤ q → cnt (put zs q o) k = cnt zs k
  | 0, _ => rfl
  | k + 1, h => by simp only [cnt]; rw [cnt_put_lo zs q o k (by omega), put_lo zs q o (by omega)]
theorem cnt_put (zs : Nat → Oc) (q : Nat) (o : Oc) : ∀ k, q ≤ k → cnt (put zs q o) (k + 1) = cnt zs k + one o.c
  | 0, h => by
    obtain rfl : q = 0 := by omega
    simp [cnt, put]
  | k + 1, h => by
    rcases Nat.lt_or_eq_of_le h with h1 | h1
    · rw [cnt, cnt_put zs q o k (by omega), put_hi zs q o (by omega)]
      simp only [cnt]
      omega
    · subst h1
      rw [cnt, cnt_put_lo zs (k + 1) o (k + 1) (Nat.le_refl _), put_at]

def blank (m : Nat) : Array Value := madeCells #[.bool false, .int .i64 0, .int .i64 0, .bool false, .bool false, .bool false] (m * 6)
theorem mkRow (m : Nat) (x : Int) (hx : x = (m : Int)) (h : m ≤ 65536) (w : World) : (Instr.makeSlice 26 (.int .i64 0) (.int .i64 x)).run Try.prog w =
    .ok (.slice (some ⟨w.heap.size, 0, none⟩) 0 m) (w.alloc (.cells (blank m) 29)) := by
  subst hx
  obtain ⟨i0, hi, hz0, hz1, hz2⟩ := info_parts Try.info29
  have := run_make (P := Try.prog) w 26 29 i0 _ Try.underlying26 hi hz0 .i64 .i64 0 (m : Int) (by omega) (by omega) (by rw [hz2]; omega) (by omega)
  rw [this, hz1]
  simp [Value.cells, blank]
theorem blank_size (m : Nat) : (blank m).size = m * 6 := by simp [blank, size_madeCells]

set_option maxRecDepth 100000 in
set_option maxHeartbeats 4000000 in
theorem insert (b off n c q : Nat) (zs : Nat → Oc) (o : Oc) (y z : Int) (w : World) (hpos : 0 < n) (hn : n ≤ 16384) (hq : q ≤ n) (hin : Run w b off n zs) (hbw : b < w.heap.size) :
    Calls Try.prog 3 #[.slice (some ⟨b, off, none⟩) n c, .agg #[.bool o.d, .int .i64 o.n, .int .i64 o.t, .bool o.c, .bool o.r, .bool o.x], .int .i64 q, .int .i64 y, .int .i64 z] w fun e w' => e = .returned (.bool true) ∧ Below w.heap.size w w' := by
  obtain ⟨i0, hi, hz0, hz1, hz2⟩ := info_parts Try.info29
  have Q1 : (0 : Int) ≤ (q : Int) := by omega
  have Q2 : (q : Int) ≤ (n : Int) := by omega
  have d1 : decide ((q : Int) < 0) = false := by simp
  have d2 : decide (n < q) = false := by simp; omega
  have d3 : decide ((16384 : Int) < (n : Int)) = false := by simp; omega
  have mk1 := mkRow n n rfl (by omega)
  have mk2 := mkRow (n + 1) ((n : Int) + 1) (by omega) (by omega)
  go_enter Try.func3, Try.ntmps3
  go_wp2_with fail
  refine (zzb5 (some ⟨b, off, none⟩) n c o q y z _ (by unfold maxLen; omega)).mono ?_
  rintro e w1 ⟨⟨x, rfl⟩, hb1⟩
  have CO : Hid (∀ j u, o.cells[j]? = some u → w1.cell? ⟨w.heap.size, j, none⟩ = some u) := fun j u hj => by
    rw [hb1.cell (p := ⟨w.heap.size, j, none⟩) (by simp), cell_of_row _ w.heap.size j _ 24 (0, 0) (heap_alloc_new w _)]
    simpa [Oc.cells] using hj
  have bw1 : Below w.heap.size w w1 := ((Below.refl _ _).alloc (Nat.le_refl _) _).trans (hb1.mono (by simp))
  have sz1 : w.heap.size < w1.heap.size := by have := hb1.size; simp at this; omega
  have hin1 : Run w1 b off n zs := hin.below bw1 hbw
  clear hb1 hin
  cases x
  · go_wp2
    go_ret
    exact ⟨rfl, bw1⟩
  go_wp2
  clear mk1
  go_loopw [11, 12] (fun v i wr => ∃ k : Nat, k ≤ n ∧ i = .int .i64 k ∧ wr.ownsRow w1.heap.size 29 6 v k (rows zs k) ∧ Below w1.heap.size w1 wr ∧ w1.heap.size ≤ wr.heap.size) (fun _ i _ => n - (intOf i).toNat)
  case atStart => exact ⟨0, Nat.zero_le _, rfl, World.ownsRow_made w1 _ n (Nat.le_refl _) (by unfold maxLen; omega) (blank_size n), (Below.refl _ _).alloc (Nat.le_refl _) _, by simp⟩
  case round =>
  obtain ⟨k, hk, rfl, hown, hbel, hB⟩ := hrel
  by_cases hlt : k < n
  · skip
    have gc : ∀ j u, (zs k).cells[j]? = some u → wr.cell? ⟨b, off + k * 6 + j, none⟩ = some u := fun j u hj => (hbel.cell (p := ⟨b, off + k * 6 + j, none⟩) (by show b < w1.heap.size; omega)).trans (hin1 k (by omega) j u hj)
    have g0 : wr.cell? ⟨b, off + k * 6, none⟩ = some (.bool (zs k).d) := gc 0 _ rfl
    have g1 : wr.cell? ⟨b, off + k * 6 + 1, none⟩ = some (.int .i64 (zs k).n) := gc 1 _ rfl
    have g2 : wr.cell? ⟨b, off + k * 6 + 2, none⟩ = some (.int .i64 (zs k).t) := gc 2 _ rfl
    have g3 : wr.cell? ⟨b, off + k * 6 + 3, none⟩ = some (.bool (zs k).c) := gc 3 _ rfl
    have g4 : wr.cell? ⟨b, off + k * 6 + 4, none⟩ = some (.bool (zs k).r) := gc 4 _ rfl
    have g5 : wr.cell? ⟨b, off + k * 6 + 5, none⟩ = some (.bool (zs k).x) := gc 5 _ rfl
    clear gc
    go_wp2_with fail
    refine (toSim (zs k) _).mono ?_
    rintro e wa ⟨rfl, hba⟩
    have owa := owns_below hown hba
    have sza : Hid (w1.heap.size ≤ wa.heap.size) := by have := hba.size; show _ ≤ _; omega
    clear g0 g1 g2 g3 g4 g5
    go_wp2_with (at_builtin; refine wpList_append_own _ rfl _ _ 26 rfl w1.heap.size 29 i0 _ 6 32 Try.underlying26 hi hz0 hz1 hz2 rfl (by decide) _ _ _ rfl (owa.alloc _) ⟨wa.heap.size, 0, none⟩ 1 1 (zs k).cells rfl rfl (World.news_of_block (heap_alloc_new wa _)) (cells_one _) (by unfold maxLen; omega) (by omega) (by have := sza.out; simp; omega) ?_)
    intro v' w5 hown' hgrow _
    have R := add_step hown hbel hB hba hown' hgrow
    have R' : Hid _ := R
    clear R hown' hgrow hown hbel hba owa sza hB
    go_wp2
    go_roundw
    case rel => exact ⟨k + 1, by omega, by go_num, R'.out.1, R'.out.2.1, R'.out.2.2⟩
    case measure => simp [intOf]; omega
  have hkn : n = k := by omega
  subst hkn
  obtain ⟨gb, cb, rfl, _, gb2⟩ := hown.form hpos
  have gb1 := run_of_owns hown
  have bwr : Below w.heap.size w wr := bw1.trans (hbel.mono (Nat.le_of_lt sz1))
  have hin2 : Run wr b off n zs := hin1.below hbel (by omega)
  have CO2 : Hid (∀ j u, o.cells[j]? = some u → wr.cell? ⟨w.heap.size, j, none⟩ = some u) := fun j u hj => (hbel.cell (p := ⟨w.heap.size, j, none⟩) sz1).trans (CO.out j u hj)
  obtain ⟨w2, W2⟩ : ∃ w2, Hid (wr = w2) := ⟨wr, rfl⟩
  rw [W2.out] at gb1 gb2 bwr hin2 CO2 hB
  have bX : b < w2.heap.size := by omega
  have oX : w.heap.size < w2.heap.size := by omega
  rw [W2.out]
  clear hown hbel hin1 CO hk hlt bw1 sz1 hB W2 hbw
  go_wp2
  clear mk2
  go_loopw [13, 14] (fun v i wr => ∃ k : Nat, k ≤ q ∧ i = .int .i64 k ∧ wr.ownsRow w2.heap.size 29 6 v k (rows (put zs q o) k) ∧ Below w2.heap.size w2 wr ∧ w2.heap.size ≤ wr.heap.size) (fun _ i _ => n - (intOf i).toNat)
  case atStart => exact ⟨0, Nat.zero_le _, rfl, World.ownsRow_made w2 _ (n + 1) (Nat.le_refl _) (by unfold maxLen; omega) (blank_size (n + 1)), (Below.refl _ _).alloc (Nat.le_refl _) _, by simp⟩
  case round =>
  obtain ⟨k, hk, rfl, hown, hbel, hB⟩ := hrel
  by_cases hlt : k < q
  · skip
    have gc : ∀ j u, (zs k).cells[j]? = some u → wr.cell? ⟨b, off + k * 6 + j, none⟩ = some u := fun j u hj => (hbel.cell (p := ⟨b, off + k * 6 + j, none⟩) (by show b < w2.heap.size; omega)).trans (hin2 k (by omega) j u hj)
    have g0 : wr.cell? ⟨b, off + k * 6, none⟩ = some (.bool (zs k).d) := gc 0 _ rfl
    have g1 : wr.cell? ⟨b, off + k * 6 + 1, none⟩ = some (.int .i64 (zs k).n) := gc 1 _ rfl
    have g2 : wr.cell? ⟨b, off + k * 6 + 2, none⟩ = some (.int .i64 (zs k).t) := gc 2 _ rfl
    have g3 : wr.cell? ⟨b, off + k * 6 + 3, none⟩ = some (.bool (zs k).c) := gc 3 _ rfl
    have g4 : wr.cell? ⟨b, off + k * 6 + 4, none⟩ = some (.bool (zs k).r) := gc 4 _ rfl
    have g5 : wr.cell? ⟨b, off + k * 6 + 5, none⟩ = some (.bool (zs k).x) := gc 5 _ rfl
    clear gc
    go_wp2_with fail
    refine (toSim (zs k) _).mono ?_
    rintro e wa ⟨rfl, hba⟩
    have owa := owns_below hown hba
    have sza : Hid (w2.heap.size ≤ wa.heap.size) := by have := hba.size; show _ ≤ _; omega
    clear g0 g1 g2 g3 g4 g5
    go_wp2_with (at_builtin; refine wpList_append_own _ rfl _ _ 26 rfl w2.heap.size 29 i0 _ 6 32 Try.underlying26 hi hz0 hz1 hz2 rfl (by decide) _ _ _ rfl (owa.alloc _) ⟨wa.heap.size, 0, none⟩ 1 1 (zs k).cells rfl rfl (World.news_of_block (heap_alloc_new wa _)) (cells_one _) (by unfold maxLen; omega) (by omega) (by have := sza.out; simp; omega) ?_)
    intro v' w5 hown' hgrow _
    have R := add_step hown hbel hB hba hown' hgrow
    have R' : Hid _ := R
    clear R hown' hgrow hown hbel hba owa sza hB
    go_wp2
    go_roundw
    case rel => exact ⟨k + 1, by omega, by go_num, by rw [rows_put_lo zs q o hlt]; exact R'.out.1, R'.out.2.1, R'.out.2.2⟩
    case measure => simp [intOf]; omega
  have hkq : q = k := by omega
  subst hkq
  clear hk hlt
  have gc : ∀ j u, o.cells[j]? = some u → wr.cell? ⟨w.heap.size, j, none⟩ = some u := fun j u hj => (hbel.cell (p := ⟨w.heap.size, j, none⟩) oX).trans (CO2.out j u hj)
  have g0 : wr.cell? ⟨w.heap.size, 0, none⟩ = some (.bool o.d) := gc 0 _ rfl
  have g1 : wr.cell? ⟨w.heap.size, 1, none⟩ = some (.int .i64 o.n) := gc 1 _ rfl
  have g2 : wr.cell? ⟨w.heap.size, 2, none⟩ = some (.int .i64 o.t) := gc 2 _ rfl
  have g3 : wr.cell? ⟨w.heap.size, 3, none⟩ = some (.bool o.c) := gc 3 _ rfl
  have g4 : wr.cell? ⟨w.heap.size, 4, none⟩ = some (.bool o.r) := gc 4 _ rfl
  have g5 : wr.cell? ⟨w.heap.size, 5, none⟩ = some (.bool o.x) := gc 5 _ rfl
  clear gc
  go_wp2_with fail
  refine (toSim o _).mono ?_
  rintro e wa ⟨rfl, hba⟩
  have owa := owns_below hown hba
  have sza : Hid (w2.heap.size ≤ wa.heap.size) := by have := hba.size; show _ ≤ _; omega
  clear g0 g1 g2 g3 g4 g5
  go_wp2_with (at_builtin; refine wpList_append_own _ rfl _ _ 26 rfl w2.heap.size 29 i0 _ 6 32 Try.underlying26 hi hz0 hz1 hz2 rfl (by decide) _ _ _ rfl (owa.alloc _) ⟨wa.heap.size, 0, none⟩ 1 1 o.cells rfl rfl (World.news_of_block (heap_alloc_new wa _)) (cells_one _) (by unfold maxLen; omega) (by omega) (by have := sza.out; simp; omega) ?_)
  intro v' w5 hown' hgrow _
  have R := add_step hown hbel hB hba hown' hgrow
  have R' : Hid _ := R
  clear R hown' hgrow hown hbel hba owa sza hB
  go_wp2
  go_loopw [13, 15] (fun v i wr => ∃ k : Nat, q ≤ k ∧ k ≤ n ∧ i = .int .i64 k ∧ wr.ownsRow w2.heap.size 29 6 v (k + 1) (rows (put zs q o) (k + 1)) ∧ Below w2.heap.size w2 wr ∧ w2.heap.size ≤ wr.heap.size) (fun _ i _ => n - (intOf i).toNat)
  case atStart => exact ⟨q, Nat.le_refl _, hq, rfl, by rw [rows_put_at]; exact R'.out.1, R'.out.2.1, R'.out.2.2⟩
  case round =>
  clear R'
  obtain ⟨k, hqk, hk, rfl, hown, hbel, hB⟩ := hrel
  by_cases hlt : k < n
  · skip
    have gc : ∀ j u, (zs k).cells[j]? = some u → wr.cell? ⟨b, off + k * 6 + j, none⟩ = some u := fun j u hj => (hbel.cell (p := ⟨b, off + k * 6 + j, none⟩) (by show b < w2.heap.size; omega)).trans (hin2 k (by omega) j u hj)
    have g0 : wr.cell? ⟨b, off + k * 6, none⟩ = some (.bool (zs k).d) := gc 0 _ rfl
    have g1 : wr.cell? ⟨b, off + k * 6 + 1, none⟩ = some (.int .i64 (zs k).n) := gc 1 _ rfl
    have g2 : wr.cell? ⟨b, off + k * 6 + 2, none⟩ = some (.int .i64 (zs k).t) := gc 2 _ rfl
    have g3 : wr.cell? ⟨b, off + k * 6 + 3, none⟩ = some (.bool (zs k).c) := gc 3 _ rfl
    have g4 : wr.cell? ⟨b, off + k * 6 + 4, none⟩ = some (.bool (zs k).r) := gc 4 _ rfl
    have g5 : wr.cell? ⟨b, off + k * 6 + 5, none⟩ = some (.bool (zs k).x) := gc 5 _ rfl
    clear gc
    go_wp2_with fail
    refine (toSim (zs k) _).mono ?_
    rintro e wa ⟨rfl, hba⟩
    have owa := owns_below hown hba
    have sza : Hid (w2.heap.size ≤ wa.heap.size) := by have := hba.size; show _ ≤ _; omega
    clear g0 g1 g2 g3 g4 g5
    go_wp2_with (at_builtin; refine wpList_append_own _ rfl _ _ 26 rfl w2.heap.size 29 i0 _ 6 32 Try.underlying26 hi hz0 hz1 hz2 rfl (by decide) _ _ _ rfl (owa.alloc _) ⟨wa.heap.size, 0, none⟩ 1 1 (zs k).cells rfl rfl (World.news_of_block (heap_alloc_new wa _)) (cells_one _) (by unfold maxLen; omega) (by omega) (by have := sza.out; simp; omega) ?_)
    intro v' w5 hown' hgrow _
    have R := add_step hown hbel hB hba hown' hgrow
    have R' : Hid _ := R
    clear R hown' hgrow hown hbel hba owa sza hB
    go_wp2
    go_roundw
    case rel => exact ⟨k + 1, by omega, by omega, by go_num, by rw [rows_put_hi zs q o hqk]; exact R'.out.1, R'.out.2.1, R'.out.2.2⟩
    case measure => simp [intOf]; omega
  have hkn : n = k := by omega
  subst hkn
  clear hk hlt hqk
  obtain ⟨gg, cg, rfl, _, gg2⟩ := hown.form (by omega)
  have gg1 := run_of_owns hown
  have gb3 : Run wr gb 0 n zs := gb1.below hbel gb2
  have c3 : wr.cell? ⟨w.heap.size, 3, none⟩ = some (.bool o.c) := (hbel.cell (p := ⟨w.heap.size, 3, none⟩) oX).trans (CO2.out 3 _ rfl)
  have bfin : Below w.heap.size w wr := bwr.trans (hbel.mono (Nat.le_of_lt oX))
  obtain ⟨a1, a2⟩ := cnt_bd zs n
  obtain ⟨a3, a4⟩ := one_bd o.c
  have ow : w.heap.size < wr.heap.size := by omega
  clear hown hbel hB
  go_wp2_with fail
  refine (crashes gb 0 n cb zs y z _ (by omega) gb3).mono ?_
  rintro e w6 ⟨rfl, hb6⟩
  have gg3 : Run w6 gg 0 (n + 1) (put zs q o) := gg1.same (below_cells hb6)
  have c4 := below_cells hb6 _ _ c3
  have bf6 : Below w.heap.size w w6 := bfin.trans (hb6.mono (Nat.le_of_lt ow))
  have ow6 : w.heap.size < w6.heap.size := by have := hb6.size; omega
  clear hb6 c3 gb3 bfin ow gg1
  go_wp2_with fail
  refine (crashes gg 0 (n + 1) cg (put zs q o) y z _ (by omega) gg3).mono ?_
  rintro e w7 ⟨rfl, hb7⟩
  rw [cnt_put zs q o n hq]
  have c5 := below_cells hb7 _ _ c4
  have bf7 : Below w.heap.size w w7 := bf6.trans (hb7.mono (Nat.le_of_lt ow6))
  clear hb7 c4 bf6 ow6 gg3
  go_wp2_with fail
  refine (ones8 o.c _).mono ?_
  rintro e w8 ⟨rfl, rfl⟩
  go_wp2
  go_ret
  exact ⟨rfl, bf7⟩
end Go.Proofs.Qxb6631332a
