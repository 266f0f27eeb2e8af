import Derived.Test.Qxb6631276aOrder
namespace Go.Proofs.Qxb6631276a
open Go.RowKit
set_option linter.unusedVariables false

theorem made_zero (n : Nat) : madeCells #[Value.int .u8 0] n = (zeroL n).toArray := by
  apply Array.ext'
  simp [toList_madeCells_one, zeroL]
theorem mkKey (n : Nat) (h : n ≤ 1048576) (w : World) : (Instr.makeSlice 27 (.int .i64 (n : Int)) (.int .i64 ((n : Int) + 1))).run Try.prog w =
    .ok (.slice (some ⟨w.heap.size, 0, none⟩) n (n + 1)) (w.alloc (.cells (zeroL (n + 1)).toArray 5)) := by
  obtain ⟨i0, hi, hz0, hz1, hz2⟩ := info_parts Try.info5
  have := run_make (P := Try.prog) w 27 5 i0 (.int .u8 0) Try.underlying27 hi hz0 .i64 .i64 (n : Int) ((n : Int) + 1) (by omega) (by omega) (by rw [hz2]; omega) (by omega)
  rw [this, hz1, ← made_zero]
  have e : ((n : Int) + 1).toNat = n + 1 := by omega
  rw [e]
  simp [Value.cells]
theorem size5 : (Try.prog.info? 5).map (·.size) = some 1 := by kernel_rfl
theorem src_at {w w' : World} {a : Option Addr} {n : Nat} {l : List Int} (h : Byt w a n l) (hw : ∀ x v, w.cell? x = some v → w'.cell? x = some v) (g : Nat) :
    0 < (l.map (Value.int .u8)).length → (some (⟨g, 0, none⟩ : Addr)) = some ⟨g, 0, none⟩ ∧ ∃ ad, a = some ad ∧ ∀ j v, (l.map (Value.int .u8))[j]? = some v → w'.cell? (ad.add j) = some v := by
  intro h0
  simp at h0
  rcases h.cell with hz | ⟨b, off, rfl, hc⟩
  · have := h.len; omega
  · refine ⟨rfl, _, rfl, fun j v hj => ?_⟩
    have hadd : (⟨b, off, none⟩ : Addr).add j = ⟨b, off + j, none⟩ := by unfold Addr.add; split <;> simp_all
    rw [hadd]
    have hjl : j < l.length := by
      rcases Nat.lt_or_ge j l.length with h1 | h1
      · exact h1
      · rw [List.getElem?_eq_none (by simpa using h1)] at hj; cases hj
    have := hw _ _ (hc j (by rw [← h.len]; exact hjl))
    rw [this, ← hj]
    simp [List.getD, hjl]
theorem keep2 {w : World} (O1 O2 : Obj) : ∀ x v, w.cell? x = some v → ((w.alloc O1).alloc O2).cell? x = some v := fun x v hx => by
  have hb := World.block_lt_of_cell? w x hx
  rw [← hx]
  exact World.cell?_of_block ((Below.heap_alloc _ O2 x.block (by simp; omega)).trans (Below.heap_alloc w O1 x.block hb))
theorem copyKey {wr : World} (r : Rec) (O1 : Obj) (hk : Byt wr r.ka r.kn r.k) : ∃ w4,
    (Builtin.copy_ #[27, 27] 3 #[.slice (some ⟨wr.heap.size + 1, 0, none⟩) r.kn (r.kn + 1), .slice r.ka r.kn r.kc]).run Try.prog ((wr.alloc O1).alloc (.cells (zeroL (r.kn + 1)).toArray 5)) = .ok (.int .i64 r.kn) w4 ∧
    w4.heap[wr.heap.size + 1]? = some (.cells (kcells r).toArray 5 (0, 0)) ∧ Below (wr.heap.size + 1) ((wr.alloc O1).alloc (.cells (zeroL (r.kn + 1)).toArray 5)) w4 := by
  have hl := hk.len
  have hnew : ((wr.alloc O1).alloc (.cells (zeroL (r.kn + 1)).toArray 5)).heap[wr.heap.size + 1]? = some (.cells (zeroL (r.kn + 1)).toArray 5 (0, 0)) := by
    have := heap_alloc_new (wr.alloc O1) (.cells (zeroL (r.kn + 1)).toArray 5)
    simpa using this
  by_cases h0 : r.kn = 0
  · have e : r.k = [] := List.eq_nil_of_length_eq_zero (by omega)
    refine ⟨_, ?_, ?_, Below.refl _ _⟩
    · have := run_copy_none (P := Try.prog) ((wr.alloc O1).alloc (.cells (zeroL (r.kn + 1)).toArray 5)) 27 27 3 5 (some ⟨wr.heap.size + 1, 0, none⟩) r.ka r.kn (r.kn + 1) r.kn r.kc Try.underlying27 size5 (by simp [h0])
      rw [this]
      simp [h0, goInt]
    · rw [hnew]
      simp [kcells, splice, e]
  · obtain ⟨_, ad, ha, hsrc⟩ := src_at hk (keep2 O1 (.cells (zeroL (r.kn + 1)).toArray 5)) (wr.heap.size + 1) (by simp; omega)
    rw [ha]
    refine ⟨((wr.alloc O1).alloc (.cells (zeroL (r.kn + 1)).toArray 5)).setRow (wr.heap.size + 1) (kcells r).toArray, ?_, ?_, below_setRow (Below.refl _ _) (Nat.le_refl _) _⟩
    · have := run_copy_row (P := Try.prog) ((wr.alloc O1).alloc (.cells (zeroL (r.kn + 1)).toArray 5)) 27 27 3 5 (wr.heap.size + 1) 0 r.kn (r.kn + 1) ad r.kn r.kc (zeroL (r.kn + 1)).toArray 5 (r.k.map (Value.int .u8)) Try.underlying27 size5 hnew (by simp [hl]) hsrc (by simp [zero_len, hl]) (ints_oneCell _ _)
      rw [this]
      simp [hl, goInt, kcells, splice]
    · exact setRow_heap ((wr.alloc O1).alloc (.cells (zeroL (r.kn + 1)).toArray 5)) (wr.heap.size + 1) _ (kcells r).toArray 5 _ hnew
theorem box_at {wr w4 : World} {r : Rec} {O2 : Obj} (hb4 : Below (wr.heap.size + 1) ((wr.alloc (.cells r.icells.toArray 31)).alloc O2) w4) : ∀ j u, r.icells[j]? = some u → w4.cell? ⟨wr.heap.size, j, none⟩ = some u := fun j u hj => by
  have hh : w4.heap[wr.heap.size]? = some (.cells r.icells.toArray 31 (0, 0)) := by
    rw [hb4.block _ (Nat.lt_succ_self _), Below.heap_alloc _ _ _ (by simp)]
    exact heap_alloc_new wr _
  rw [cell_of_row w4 wr.heap.size j _ 31 (0, 0) hh]
  simpa using hj
/-- ZZsplit, of any kind but 1. -/
theorem zzn (b n c : Nat) (kind : Int) (es : Nat → Rec) (w : World) (k1 : kind ≠ 1) (h2 : 2 ≤ n) (hs : Small n es) (hc : n ≤ c) (hcm : c ≤ maxLen) (h : Leaf w b 0 n es) :
    Calls Try.prog 8 #[.slice (some ⟨b, 0, none⟩) n c, .int .i64 kind] w fun e w' =>
      ∃ m, (1 ≤ m ∧ m + 1 ≤ n) ∧ e = .returned (.tuple #[.slice (some ⟨b, 0, none⟩) m c, .slice (es m).ka (es m).kn (es m).kc, .slice (some ⟨b, m * 10, none⟩) (n - m) (c - m)]) ∧ ∃ q, w' = w.drewN q := by
  by_cases k2 : kind = 2
  · subst k2
    exact (zz2 b n 1 c (es 1) w rfl h2 hs.1 hc hcm (h 1 (by omega))).mono fun e w' ⟨he, hw⟩ => ⟨1, ⟨Nat.le_refl _, by omega⟩, he, hw⟩
  · exact (zz0 b n c kind es w k1 k2 h2 hs hc hcm h).mono fun e w' ⟨m, hd, he, hw⟩ => ⟨m, ⟨hd.one, by have := hd.last; omega⟩, he, hw⟩
theorem small_cp {n : Nat} {es : Nat → Rec} (h : Small n es) (G : Nat → Nat) : Small n (cp es G) := ⟨h.1, fun i hi => h.2 i hi⟩
/-- The copied keys read as the keys that came in. -/
theorem keys_byt {w wr : World} {n : Nat} {es : Nat → Rec} {G : Nat → Nat} {B : Nat} (hk : Keys wr B n es G) (hok : ∀ i, i < n → Ok w (es i)) : ∀ i, i < n → Byt wr (cp es G i).ka (cp es G i).kn (es i).k :=
  fun i hi => key_byt (hok i hi).k (hk i hi).1
/-- The separator of kind 1: the key and a zero byte. -/
theorem sepb {w : World} {base gb n cb : Nat} {l : List Int} (hl : l.length = n) (h : w.ownsRow base 5 1 (.slice (some ⟨gb, 0, none⟩) (n + 1) cb) (n + 1) (l.map (Value.int .u8) ++ [.int .u8 0])) :
    Byt w (some ⟨gb, 0, none⟩) (n + 1) (l ++ [0]) ∧ base ≤ gb := by
  have hadd : ∀ j, (⟨gb, 0, none⟩ : Addr).add j = ⟨gb, 0 + j, none⟩ := fun j => by unfold Addr.add; split <;> simp_all
  have cell : ∀ j u, (l.map (Value.int .u8) ++ [.int .u8 0])[j]? = some u → w.cell? ⟨gb, 0 + j, none⟩ = some u := fun j u hj => by rw [← hadd]; exact h.cells (g := gb) rfl j u hj
  refine ⟨⟨by simp [hl], .inr ⟨gb, 0, rfl, fun i hi => cell i _ ?_⟩⟩, (h.lt gb rfl).1⟩
  rcases Nat.lt_succ_iff_lt_or_eq.1 hi with h1 | rfl
  · have : i < l.length := by omega
    simp [List.getElem?_append, this, List.getD]
  · subst hl
    simp [List.getD]
theorem byt_below {w w' : World} {X g o n : Nat} {l : List Int} (h : Byt w (some ⟨g, o, none⟩) n l) (hb : Below X w w') (hg : g < X) : Byt w' (some ⟨g, o, none⟩) n l := by
  refine ⟨h.len, ?_⟩
  rcases h.cell with h0 | ⟨b, off, ha, hc⟩
  · exact .inl h0
  · cases ha
    exact .inr ⟨g, o, rfl, fun i hi => (hb.cell (p := ⟨g, o + i, none⟩) hg).trans (hc i hi)⟩
theorem leaf_below {w w' : World} {X g o n : Nat} {es : Nat → Rec} (h : Leaf w g o n es) (hb : Below X w w') (hg : g < X) : Leaf w' g o n es :=
  fun i hi j u hj => (hb.cell (p := ⟨g, o + i * 10 + j, none⟩) hg).trans (h i hi j u hj)
theorem sep_start {w : World} {X n cb gb z : Nat} {l : List Int} (h : w.ownsRow X 5 1 (.slice (some ⟨gb, 0, none⟩) n cb) n (l.map (Value.int .u8) ++ [.int .u8 0])) :
    (w.drewN z).ownsRow X 5 1 (.slice (some ⟨gb, 0, none⟩) n cb) n ((l ++ [0]).map (Value.int .u8)) := by
  rw [List.map_append]
  exact h
theorem sep_round {w : World} {X n cb gb k : Nat} {xs : List Int} (h : w.ownsRow X 5 1 (.slice (some ⟨gb, 0, none⟩) n cb) n (xs.map (Value.int .u8))) (u : Int) :
    (w.setCell ⟨gb, k, none⟩ (.int .u8 u)).ownsRow X 5 1 (.slice (some ⟨gb, 0, none⟩) n cb) n ((xs.set k u).map (Value.int .u8)) := by
  rw [List.map_set]
  exact (h.stored k _).1
end Go.Proofs.Qxb6631276a
