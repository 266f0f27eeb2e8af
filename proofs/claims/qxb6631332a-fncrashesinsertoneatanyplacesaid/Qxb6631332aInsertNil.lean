import Derived.Test.Qxb6631332aInsert
namespace Go.Proofs.Qxb6631332a
open Go.RowKit
set_option linter.unusedVariables false

set_option maxRecDepth 100000 in
set_option maxHeartbeats 4000000 in
theorem insert_nil (a : Option Addr) (c : Nat) (o : Oc) (y z : Int) (w : World) :
    Calls Try.prog 3 #[.slice a 0 c, .agg #[.bool o.d, .int .i64 o.n, .int .i64 o.t, .bool o.c, .bool o.r, .bool o.x], .int .i64 0, .int .i64 y, .int .i64 z] w fun e w' => e = .returned (.bool true) ∧ Below w.heap.size w w' := by
  obtain ⟨i0, hi, hz0, hz1, hz2⟩ := info_parts Try.info29
  have mk1 := mkRow 0 0 rfl (by omega)
  have mk2 := mkRow 1 1 rfl (by omega)
  go_enter Try.func3, Try.ntmps3
  go_wp2_with fail
  refine (zzb5 a 0 c o 0 y z _ (by unfold maxLen; omega)).mono ?_
  rintro e w1 ⟨⟨x, rfl⟩, hb1⟩
  have CO : Hid (∀ j u, o.cells[j]? = some u → w1.cell? ⟨w.heap.size, j, none⟩ = some u) := fun j u hj => by
    rw [hb1.cell (p := ⟨w.heap.size, j, none⟩) (by simp), cell_of_row _ w.heap.size j _ 24 (0, 0) (heap_alloc_new w _)]
    simpa [Oc.cells] using hj
  have bw1 : Below w.heap.size w w1 := ((Below.refl _ _).alloc (Nat.le_refl _) _).trans (hb1.mono (by simp))
  have sz1 : w.heap.size < w1.heap.size := by have := hb1.size; simp at this; omega
  clear hb1
  cases x
  · go_wp2
    go_ret
    exact ⟨rfl, bw1⟩
  go_wp2
  refine wp_loop_rounds 1 ?_
  rw [rounds_succ]
  go_wp2
  refine wp_loop_rounds 1 ?_
  rw [rounds_succ]
  obtain ⟨wr, WR⟩ : ∃ wr, Hid (wr = (w1.alloc (.cells (blank 0) 29)).alloc (.cells (blank 1) 29)) := ⟨_, rfl⟩
  have hown : wr.ownsRow (w1.heap.size + 1) 29 6 (.slice (some ⟨w1.heap.size + 1, 0, none⟩) 0 1) 0 [] := by
    rw [WR.out]
    have := World.ownsRow_made (base := w1.heap.size + 1) (e := 29) (size := 6) (w1.alloc (.cells (blank 0) 29)) (blank 1) 1 (by simp) (by unfold maxLen; omega) (blank_size 1)
    simpa using this
  have hbel : Below (w1.heap.size + 1) (w1.alloc (.cells (blank 0) 29)) wr := by rw [WR.out]; exact (Below.refl _ _).alloc (by simp) _
  have hB : w1.heap.size + 1 ≤ wr.heap.size := by rw [WR.out]; simp
  have bwr : Below w.heap.size w wr := by rw [WR.out]; exact (bw1.alloc (Nat.le_of_lt sz1) _).alloc (by simp; omega) _
  have gc : ∀ j u, o.cells[j]? = some u → wr.cell? ⟨w.heap.size, j, none⟩ = some u := fun j u hj => by
    rw [WR.out, ← CO.out j u hj]
    exact World.cell?_of_block ((Below.heap_alloc _ _ _ (by simp; omega)).trans (Below.heap_alloc _ _ _ sz1))
  have g0 : wr.cell? ⟨w.heap.size, 0, none⟩ = some (.bool o.d) := gc 0 _ rfl
  have g1 : wr.cell? ⟨w.heap.size, 1, none⟩ = some (.int .i64 o.n) := gc 1 _ rfl
  have g2 : wr.cell? ⟨w.heap.size, 2, none⟩ = some (.int .i64 o.t) := gc 2 _ rfl
  have g3 : wr.cell? ⟨w.heap.size, 3, none⟩ = some (.bool o.c) := gc 3 _ rfl
  have g4 : wr.cell? ⟨w.heap.size, 4, none⟩ = some (.bool o.r) := gc 4 _ rfl
  have g5 : wr.cell? ⟨w.heap.size, 5, none⟩ = some (.bool o.x) := gc 5 _ rfl
  have C3 : Hid ((w1.alloc (.cells (blank 0) 29)).cell? ⟨w.heap.size, 3, none⟩ = some (.bool o.c)) := (World.cell?_of_block (Below.heap_alloc _ _ _ sz1)).trans (CO.out 3 _ rfl)
  have bw2 : Below w.heap.size w (w1.alloc (.cells (blank 0) 29)) := bw1.alloc (Nat.le_of_lt sz1) _
  rw [← WR.out]
  clear gc WR mk1 mk2 CO bw1 bwr
  go_wp2_with fail
  refine (toSim o _).mono ?_
  rintro e wa ⟨rfl, hba⟩
  have owa := owns_below hown hba
  have sza : Hid (w1.heap.size + 1 ≤ wa.heap.size) := by have := hba.size; show _ ≤ _; omega
  clear g0 g1 g2 g3 g4 g5
  go_wp2_with (at_builtin; refine wpList_append_own _ rfl _ _ 26 rfl (w1.heap.size + 1) 29 i0 _ 6 32 Try.underlying26 hi hz0 hz1 hz2 rfl (by decide) _ _ _ rfl (owa.alloc _) ⟨wa.heap.size, 0, none⟩ 1 1 o.cells rfl rfl (World.news_of_block (heap_alloc_new wa _)) (cells_one _) (by unfold maxLen; omega) (by omega) (by have := sza.out; simp; omega) ?_)
  intro v' w5 hown' hgrow _
  have R := add_step hown hbel hB hba hown' hgrow
  obtain ⟨gg, cg, rfl, _, gg2⟩ := hown'.form (by omega)
  have gg1 : Run w5 gg 0 1 (fun _ => o) := run_of_owns (zs := fun _ => o) R.1
  have c3 : w5.cell? ⟨w.heap.size, 3, none⟩ = some (.bool o.c) := (R.2.1.cell (p := ⟨w.heap.size, 3, none⟩) (by show w.heap.size < _; omega)).trans C3.out
  have bfin : Below w.heap.size w w5 := bw2.trans (R.2.1.mono (by omega))
  have ow : w.heap.size < w5.heap.size := by have := R.2.2; omega
  obtain ⟨a3, a4⟩ := one_bd o.c
  clear R hown' hgrow hown hbel hba owa sza hB bw2 C3
  go_wp2
  refine wp_loop_rounds 1 ?_
  rw [rounds_succ]
  go_wp2_with fail
  refine (crashes_nil _ _ y z _).mono ?_
  rintro e w6 ⟨rfl, hb6⟩
  have gg3 : Run w6 gg 0 1 (fun _ => o) := gg1.same (below_cells hb6)
  have c4 := below_cells hb6 _ _ c3
  have bf6 : Below w.heap.size w w6 := bfin.trans (hb6.mono (Nat.le_of_lt ow))
  have ow6 : w.heap.size < w6.heap.size := by have := hb6.size; omega
  clear hb6 c3 bfin ow gg1
  go_wp2_with fail
  refine (crashes gg 0 1 cg (fun _ => o) y z _ (by omega) gg3).mono ?_
  rintro e w7 ⟨rfl, hb7⟩
  rw [show cnt (fun _ => o) 1 = one o.c by simp [cnt]]
  have c5 := below_cells hb7 _ _ c4
  have bf7 : Below w.heap.size w w7 := bf6.trans (hb7.mono (Nat.le_of_lt ow6))
  clear hb7 c4 bf6 ow6 gg3
  go_wp2_with fail
  refine (ones8 o.c _).mono ?_
  rintro e w8 ⟨rfl, rfl⟩
  go_wp2
  go_ret
  exact ⟨rfl, bf7⟩
end Go.Proofs.Qxb6631332a
