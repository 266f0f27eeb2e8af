import Derived.Test.Qxb6631276aLeaf
import Derived.Laws.CopyOwn
namespace Go.Proofs.Qxb6631276a
open Go.RowKit
set_option linter.unusedVariables false

/-! ### The bytewise order -/
theorem less_irrefl : ∀ a : List Int, lessL a a = false
  | [] => rfl
  | x :: xs => by simp [lessL, less_irrefl xs]
theorem less_trans : ∀ {a b c : List Int}, lessL a b = true → lessL b c = true → lessL a c = true
  | _, [], _, h, _ => by simp [lessL] at h
  | _, _ :: _, [], _, h => by simp [lessL] at h
  | [], _ :: _, _ :: _, _, _ => by simp [lessL]
  | x :: xs, y :: ys, z :: zs, h1, h2 => by
    simp only [lessL] at h1 h2 ⊢
    by_cases e1 : x = y
    · subst e1
      rw [if_pos rfl] at h1
      by_cases e2 : x = z
      · subst e2
        rw [if_pos rfl] at h2 ⊢
        exact less_trans h1 h2
      · rw [if_neg e2] at h2 ⊢
        exact h2
    · rw [if_neg e1] at h1
      by_cases e2 : y = z
      · subst e2
        rw [if_neg e1]
        exact h1
      · rw [if_neg e2] at h2
        simp at h1 h2
        rw [if_neg (by omega)]
        simp
        omega
theorem less_asymm {a b : List Int} (h : lessL a b = true) : lessL b a = false := by
  cases h2 : lessL b a with
  | false => rfl
  | true => rw [← less_irrefl a]; exact (less_trans h h2).symm
theorem less_snoc_self : ∀ a : List Int, lessL a (a ++ [0]) = true
  | [] => rfl
  | x :: xs => by simp [lessL, less_snoc_self xs]
theorem less_snoc {a b : List Int} (h : lessL a b = true) : lessL a (b ++ [0]) = true := less_trans h (less_snoc_self b)
theorem less_next : ∀ {a b : List Int}, lessL a b = true → (∀ x ∈ b, 0 ≤ x) → lessL b (a ++ [0]) = false
  | _, [], h, _ => by simp [lessL] at h
  | [], y :: ys, _, hb => by
    have := hb y (by simp)
    simp only [List.nil_append, lessL]
    by_cases e : y = 0
    · rw [if_pos e]
    · rw [if_neg e]; simp; omega
  | x :: xs, y :: ys, h, hb => by
    simp only [lessL, List.cons_append] at h ⊢
    by_cases e : x = y
    · subst e
      rw [if_pos rfl] at h ⊢
      exact less_next h (fun z hz => hb z (by simp [hz]))
    · rw [if_neg e] at h
      rw [if_neg (fun h => e h.symm)]
      simp at h ⊢
      omega

/-- The first k keys ascend. -/
def Asc (k : Nat) (es : Nat → Rec) : Prop := ∀ i, i + 1 < k → lessL (es i).k (es (i + 1)).k = true
theorem Asc.succ {k : Nat} {es : Nat → Rec} (h : Asc (k + 1) es) (hk : lessL (es k).k (es (k + 1)).k = true) : Asc (k + 1 + 1) es := by
  intro i hi
  rcases Nat.lt_or_eq_of_le (Nat.le_of_lt_succ hi) with h1 | h1
  · exact h i h1
  · obtain rfl : i = k := by omega
    exact hk
theorem Asc.lt {n : Nat} {es : Nat → Rec} (h : Asc n es) : ∀ {i j : Nat}, i < j → j < n → lessL (es i).k (es j).k = true
  | i, 0, hij, _ => by omega
  | i, j + 1, hij, hj => by
    rcases Nat.lt_succ_iff_lt_or_eq.1 hij with h1 | rfl
    · exact less_trans (h.lt h1 (by omega)) (h j hj)
    · exact h i hj
theorem Asc.ge {n : Nat} {es : Nat → Rec} (h : Asc n es) {m j : Nat} (hm : m ≤ j) (hj : j < n) : lessL (es j).k (es m).k = false := by
  rcases Nat.lt_or_eq_of_le hm with h1 | rfl
  · exact less_asymm (h.lt h1 hj)
  · exact less_irrefl _

/-- What the separator does. -/
structure Parts (n m : Nat) (es : Nat → Rec) (bl : List Int) : Prop where
  lo : ∀ j, j < m → lessL (es j).k bl = true
  hi : ∀ j, m ≤ j → j < n → lessL (es j).k bl = false
theorem parts_at {n m : Nat} {es : Nat → Rec} (h : Asc n es) (hm : m < n) : Parts n m es (es m).k :=
  ⟨fun j hj => h.lt hj hm, fun j h1 h2 => h.ge h1 h2⟩
theorem parts_last {n m p : Nat} {es : Nat → Rec} (h : Asc n es) (e1 : n = m + 1) (e2 : m = p + 1) (hn : ∀ x ∈ (es m).k, 0 ≤ x) : Parts n m es ((es p).k ++ [0]) := by
  refine ⟨fun j hj => ?_, fun j h1 h2 => ?_⟩
  · rcases Nat.lt_or_eq_of_le (show j ≤ p by omega) with h3 | rfl
    · exact less_snoc (h.lt h3 (by omega))
    · exact less_snoc_self _
  · obtain rfl : j = m := by omega
    exact less_next (h.lt (by omega) h2) hn

/-! ### The copied keys -/
def zeroL (n : Nat) : List Value := List.replicate n (.int .u8 0)
def kcells (r : Rec) : List Value := splice (zeroL (r.kn + 1)) 0 (r.k.map (Value.int .u8))
def cpr (r : Rec) (g : Nat) : Rec := { r with ka := some ⟨g, 0, none⟩, kc := r.kn + 1 }
def cp (es : Nat → Rec) (G : Nat → Nat) (i : Nat) : Rec := cpr (es i) (G i)
def Keys (w : World) (B k : Nat) (es : Nat → Rec) (G : Nat → Nat) : Prop := ∀ i, i < k → w.heap[G i]? = some (.cells (kcells (es i)).toArray 5 (0, 0)) ∧ B ≤ G i

theorem rows_congr {es es' : Nat → Rec} : ∀ {m : Nat}, (∀ i, i < m → es i = es' i) → rows es m = rows es' m
  | 0, _ => rfl
  | m + 1, h => by simp only [rows]; rw [rows_congr (fun i hi => h i (by omega)), h m (by omega)]

def upd (G : Nat → Nat) (k g : Nat) (i : Nat) : Nat := if i = k then g else G i
theorem rows_upd (es : Nat → Rec) (G : Nat → Nat) (k g : Nat) : rows (cp es (upd G k g)) (k + 1) = rows (cp es G) k ++ (cpr (es k) g).cells := by
  simp only [rows]
  rw [rows_congr (es' := cp es G) (fun i hi => by simp [cp, upd, show i ≠ k by omega])]
  simp [cp, upd]

theorem key_byt {w : World} {g : Nat} {r : Rec} {a : Option Addr} {w0 : World} (h0 : Byt w0 a r.kn r.k) (h : w.heap[g]? = some (.cells (kcells r).toArray 5 (0, 0))) : Byt w (some ⟨g, 0, none⟩) r.kn r.k := by
  refine ⟨h0.len, .inr ⟨g, 0, rfl, fun i hi => ?_⟩⟩
  have hl := h0.len
  rw [cell_of_row w g (0 + i) _ 5 (0, 0) h]
  have : i < r.k.length := by omega
  simp [kcells, splice, List.getElem?_append, this, List.getD]

theorem zero_len (n : Nat) : (zeroL n).length = n := by simp [zeroL]

theorem owns_below {w w' : World} {base : Nat} {e : TypeId} {size : Nat} {v : Value} {n : Nat} {xs : List Value} {B : Nat} (h : w.ownsRow base e size v n xs) (hb : Below B w w') (hlt : ∀ g, v.ownBlock = some g → g < B) : w'.ownsRow base e size v n xs := by
  refine ⟨h.1, ?_⟩
  rcases h.2 with h0 | ⟨g, cap, cur, rfl, hg, hh, r⟩
  · exact .inl h0
  · exact .inr ⟨g, cap, cur, rfl, hg, (hb.block g (hlt g rfl)).trans hh, r⟩

/-- The round's step. 'wr': the round's world; O1, O2: the record's own variable and the new key's block; w4: behind the copy; w5: behind the append. -/
theorem sep_step {w wr w4 w5 : World} {v v' : Value} {k : Nat} {es : Nat → Rec} {G : Nat → Nat} {O1 O2 : Obj}
    (hown : wr.ownsRow w.heap.size 48 10 v k (rows (cp es G) k)) (hbel : Below w.heap.size w wr) (hkeys : Keys wr w.heap.size k es G)
    (h4 : w4.heap[wr.heap.size + 1]? = some (.cells (kcells (es k)).toArray 5 (0, 0))) (hb4 : Below (wr.heap.size + 1) ((wr.alloc O1).alloc O2) w4)
    (hown' : w5.ownsRow w.heap.size 48 10 v' (k + 1) (rows (cp es G) k ++ (cpr (es k) (wr.heap.size + 1)).cells)) (hgrow : w4.grownBy w5 v.ownBlock) :
    w5.ownsRow w.heap.size 48 10 v' (k + 1) (rows (cp es (upd G k (wr.heap.size + 1))) (k + 1)) ∧ Below w.heap.size w w5 ∧ Keys w5 w.heap.size (k + 1) es (upd G k (wr.heap.size + 1)) := by
  have hs4 : wr.heap.size + 2 ≤ w4.heap.size := by have := hb4.size; simp at this; omega
  have hsz := hbel.size
  have hv : ∀ g, v.ownBlock = some g → w.heap.size ≤ g ∧ g < wr.heap.size ∧ ∃ cur, wr.heap[g]? = some (.cells cur 48 (0, 0)) := by
    intro g hg
    rcases hown.2 with ⟨h0, _⟩ | ⟨g', cap, cur, rfl, hg1, hh, _⟩
    · rw [h0] at hg; simp [Value.ownBlock] at hg
    · simp [Value.ownBlock] at hg
      subst hg
      exact ⟨hg1, (Array.getElem?_eq_some_iff.1 hh).1, cur, hh⟩
  have old : ∀ g, g < wr.heap.size → w4.heap[g]? = wr.heap[g]? := fun g hg => by
    rw [hb4.block g (by omega), Below.heap_alloc _ _ _ (by simp; omega), Below.heap_alloc _ _ _ hg]
  refine ⟨by rw [rows_upd]; exact hown', ?_, ?_⟩
  · refine ⟨?_, ?_, ?_, by have := hgrow.size; omega, fun j hj => ?_⟩
    · rw [hgrow.os, hb4.os]; exact hbel.os
    · rw [hgrow.tape, hb4.tape]; exact hbel.tape
    · rw [hgrow.output, hb4.output]; exact hbel.output
    · rw [hgrow.block j (by omega) (fun e => by have := hv j e.symm; omega), old j (by omega)]
      exact hbel.block j hj
  · intro i hi
    rcases Nat.lt_succ_iff_lt_or_eq.1 hi with h1 | rfl
    · have e : upd G k (wr.heap.size + 1) i = G i := by simp [upd, show i ≠ k by omega]
      rw [e]
      obtain ⟨hk1, hk2⟩ := hkeys i h1
      have hlt := (Array.getElem?_eq_some_iff.1 hk1).1
      refine ⟨?_, hk2⟩
      rw [hgrow.block (G i) (by omega) (fun e => by
        obtain ⟨_, _, cur, hc⟩ := hv (G i) e.symm
        rw [hk1] at hc
        simp at hc), old _ hlt]
      exact hk1
    · have e : upd G i (wr.heap.size + 1) i = wr.heap.size + 1 := by simp [upd]
      rw [e]
      refine ⟨?_, by omega⟩
      rw [hgrow.block _ (by omega) (fun e => by have := hv _ e.symm; omega)]
      exact h4
end Go.Proofs.Qxb6631276a
