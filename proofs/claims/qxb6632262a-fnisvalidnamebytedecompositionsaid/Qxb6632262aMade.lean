import Derived.Test.Qxb6632262aNames
namespace Go.Proofs.Qxb6632262a
open Go.RowKit
open Go.PlainAid (bt get_bt bt_nonneg bt_le bt_end)
set_option linter.unusedVariables false

/-! ### Strings made of numbers -/
theorem nums_size (xs : List Int) : (strOfNums xs).size = xs.length := by rw [Lib.size_eq]; simp [strOfNums]
theorem nums_bt (xs : List Int) (h : ∀ x ∈ xs, 0 ≤ x ∧ x ≤ 255) (k : Nat) (hk : k < xs.length) : bt (strOfNums xs) k = xs[k] := by
  obtain ⟨c, h1, h2⟩ := bt_data (strOfNums xs) k (by rw [nums_size]; exact hk)
  rw [h2]
  simp [strOfNums, hk] at h1
  have := h xs[k] (List.getElem_mem hk)
  rw [← h1]
  simp
  omega

theorem doc_single (c : Int) (h0 : 0 ≤ c) (h1 : c ≤ 255) : doc (strip (strOfNums [c])) = nb c := by
  have hz : (strOfNums [c]).size = 1 := nums_size [c]
  have hh : hasS (strOfNums [c]) = false := by unfold hasS; simp [hz]
  rw [strip_none hh]
  unfold doc
  rw [hz, allNb_succ]
  rw [nums_bt [c] (by intro x hx; simp at hx; subst hx; exact ⟨h0, h1⟩) 0 (by simp)]
  simp [allNb]

theorem doc_repeat (c : Int) (h0 : 0 ≤ c) (h1 : c ≤ 255) (hc : nb c = true) (n : Nat) (hn : 1 ≤ n) : doc (strip (strOfNums (List.replicate n c))) = decide (n ≤ 64) := by
  have hz : (strOfNums (List.replicate n c)).size = n := by rw [nums_size]; simp
  have hb : ∀ k, k < n → bt (strOfNums (List.replicate n c)) k = c := fun k hk => by
    rw [nums_bt _ (by intro x hx; rw [List.eq_of_mem_replicate hx]; exact ⟨h0, h1⟩) k (by simpa using hk)]
    simp
  have hh : hasS (strOfNums (List.replicate n c)) = false := by
    cases hv : hasS (strOfNums (List.replicate n c)) with
    | false => rfl
    | true =>
      have h10 := hasS_size hv
      rw [hz] at h10
      rw [hasS_agree _ (by rw [hz]; exact h10)] at hv
      unfold agree at hv
      rw [List.all_eq_true] at hv
      have h3 := hv 0 (by simp)
      rw [hz, hb (n - 10 + 0) (by omega)] at h3
      have h4 : c = sn 0 := by simpa using h3
      rw [h4] at hc
      exact absurd hc (by decide)
  rw [strip_none hh]
  by_cases h64 : n ≤ 64
  · rw [doc_true (by rw [hz]; exact hn) (by rw [hz]; exact h64)]
    · simp [h64]
    · unfold allNb
      rw [List.all_eq_true]
      intro j hj
      rw [hz] at hj
      rw [hb j (by simpa using hj)]
      exact hc
  · rw [doc_size (by rw [hz]; omega)]
    simp [h64]

/-! ### zzSingle -/
theorem single (c : Int) (h0 : 0 ≤ c) (h1 : c ≤ 255) (w : World) : Calls Try.prog 11 #[.int .u8 c] w fun e w' => e = .returned (.bool (nb c)) ∧ Below w.heap.size w w' := by
  have cv := run_convert_bytes_arg (P := Try.prog) (w.alloc (.cells #[.int .u8 c] 5)) 27 5 Try.underlying27 Try.underlying5 w.heap.size 0 1 1 [c] rfl
    (fun i hi => by
      obtain rfl : i = 0 := by omega
      rw [cell_of_row (w.alloc (.cells #[.int .u8 c] 5)) w.heap.size (0 + 0) _ 5 (0, 0) (heap_alloc_new w _)]
      rfl) 9 Try.underlying9
  have D := doc_single c h0 h1
  have V : Hid _ := valid (strOfNums [c]) (w.alloc (.cells #[.int .u8 c] 5)) (by rw [nums_size]; simp)
  go_enter Try.func11, Try.ntmps11
  go_wp2_with fail
  refine Calls.mono V.out ?_
  rintro e w' ⟨rfl, rfl⟩
  go_wp2
  go_ret
  exact ⟨rfl, (Below.refl _ _).alloc (Nat.le_refl _) _⟩

/-! ### zzRepeat -/
theorem Try.info5 : (Try.prog.info? 5).map (fun i => (i.zero, i.size, i.bytes)) = some (some (.int .u8 0), 1, 1) := by kernel_rfl
def zeroL (n : Nat) : List Int := List.replicate n 0
theorem made_zero (n : Nat) : madeCells #[Value.int .u8 0] n = ((zeroL n).map (Value.int .u8)).toArray := by
  apply Array.ext'
  simp [toList_madeCells_one, zeroL]
def zeroA (n : Nat) : Array Value := ((zeroL n).map (Value.int .u8)).toArray
theorem mkZero (n : Nat) (h : n ≤ 1048576) (w : World) : (Instr.makeSlice 27 (.int .i64 (n : Int)) (.int .i64 (n : Int))).run Try.prog w =
    .ok (.slice (some ⟨w.heap.size, 0, none⟩) n n) (w.alloc (.cells (zeroA n) 5)) := by
  obtain ⟨i0, hi, hz0, hz1, hz2⟩ := info_parts Try.info5
  have := run_make (P := Try.prog) w 27 5 i0 (.int .u8 0) Try.underlying27 hi hz0 .i64 .i64 (n : Int) (n : Int) (by omega) (by omega) (by rw [hz2]; omega) (by omega)
  rw [this, hz1]
  unfold zeroA
  rw [← made_zero]
  simp [Value.cells]
theorem zero_own (w : World) (n : Nat) (hn : n ≤ 1048576) : (w.alloc (.cells (zeroA n) 5)).ownsRow w.heap.size 5 1 (.slice (some ⟨w.heap.size, 0, none⟩) n n) n ((zeroL n).map (Value.int .u8)) := by
  have := World.ownsRow_lit (base := w.heap.size) (e := 5) (size := 1) w (zeroA n) n (Nat.le_refl _) (by unfold maxLen; omega) (by simp [zeroA, zeroL])
  simpa [zeroA] using this
theorem rep_round {w : World} {X n cb gb k : Nat} {xs : List Int} (h : w.ownsRow X 5 1 (.slice (some ⟨gb, 0, none⟩) n cb) n (xs.map (Value.int .u8))) (u : Int) :
    (w.setCell ⟨gb, k, none⟩ (.int .u8 u)).ownsRow X 5 1 (.slice (some ⟨gb, 0, none⟩) n cb) n ((xs.set k u).map (Value.int .u8)) := by
  rw [List.map_set]
  exact (h.stored k _).1
/-- The first k numbers are c. -/
def Filled (c : Int) (k : Nat) (xs : List Int) : Prop := ∀ j, j < k → xs[j]? = some c
theorem Filled.set {c : Int} {k : Nat} {xs : List Int} (h : Filled c k xs) (hk : k < xs.length) : Filled c (k + 1) (xs.set k c) := by
  intro j hj
  rw [List.getElem?_set]
  by_cases e : k = j
  · subst e
    simp [hk]
  · rw [if_neg e]
    exact h j (by omega)
theorem Filled.all {c : Int} {n : Nat} {xs : List Int} (h : Filled c n xs) (hl : xs.length = n) : xs = List.replicate n c := by
  apply List.ext_getElem?
  intro j
  by_cases hj : j < n
  · rw [h j hj]; simp [hj]
  · rw [List.getElem?_eq_none (by omega), List.getElem?_eq_none (by simp; omega)]

set_option maxHeartbeats 400000 in
theorem rep (c : Int) (n : Nat) (hn : n ≤ 1000) (w : World) : Calls Try.prog 12 #[.int .u8 c, .int .i64 n] w fun e w' => e = .returned (.string (strOfNums (List.replicate n c))) ∧ Below w.heap.size w w' := by
  have mk := mkZero n (by omega)
  go_enter Try.func12, Try.ntmps12
  go_wp2
  clear mk
  go_loopw [6] (fun i wr => ∃ (k : Nat) (xs : List Int), k ≤ n ∧ i = .int .i64 k ∧ Filled c k xs ∧ wr.ownsRow w.heap.size 5 1 (.slice (some ⟨w.heap.size, 0, none⟩) n n) n (xs.map (Value.int .u8)) ∧ Below w.heap.size w wr) (fun i _ => n - (intOf i).toNat)
  case atStart => exact ⟨0, zeroL n, Nat.zero_le _, rfl, fun j hj => by omega, zero_own w n (by omega), (Below.refl _ _).alloc (Nat.le_refl _) _⟩
  case round =>
    obtain ⟨k, xs, hk, rfl, hfil, hown, hbel⟩ := hrel
    have hxl : xs.length = n := by have := hown.1; simpa using this
    by_cases hlt : k < n
    · have c0 : wr.cell? ⟨w.heap.size, k, none⟩ = some (.int .u8 (xs.getD k 0)) := by rw [hown.cellAt k (by omega)]; simp [List.getD, hxl, hlt]
      have c1 : wr.frozen? ⟨w.heap.size, k, none⟩ = false := hown.frozenAt k
      have F := hfil.set (by omega)
      have F' : Hid _ := F
      clear F hfil
      go_wp2
      go_roundw
      case rel => exact ⟨k + 1, xs.set k c, by omega, by go_num, F'.out, rep_round hown _, hbel.setCell (Nat.le_refl _) _⟩
      case measure => simp [intOf]; omega
    · have cv := run_convert_bytes_arg (P := Try.prog) wr 27 5 Try.underlying27 Try.underlying5 w.heap.size 0 n n xs hxl
        (fun i hi => by rw [Nat.zero_add, hown.cellAt i (by omega)]; simp [List.getD, hxl, hi]) 9 Try.underlying9
      have e : k = n := by omega
      subst e
      have E := hfil.all hxl
      have E' : Hid _ := E
      clear E hfil hown hxl
      go_wp2
      go_ret
      exact ⟨by rw [← E'.out]; rfl, hbel⟩

/-- n bytes c. -/
def repS (c : Int) (n : Nat) : ByteArray := strOfNums (List.replicate n c)
theorem repS_size (c : Int) (n : Nat) : (repS c n).size = n := by unfold repS; rw [nums_size]; simp
theorem doc_repS (c : Int) (h0 : 0 ≤ c) (h1 : c ≤ 255) (hc : nb c = true) (n : Nat) (hn : 1 ≤ n) : doc (strip (repS c n)) = decide (n ≤ 64) := doc_repeat c h0 h1 hc n hn
theorem repC (c : Int) (n : Nat) (x : Int) (hx : x = (n : Int)) (hn : n ≤ 1000) (w : World) : Calls Try.prog 12 #[.int .u8 c, .int .i64 x] w fun e w' => e = .returned (.string (repS c n)) ∧ Below w.heap.size w w' := by
  subst hx
  exact rep c n hn w
end Go.Proofs.Qxb6632262a
