import Derived.Test.Qxb6631276aGuards
namespace Go.Proofs.Qxb6631276a
open Go.RowKit
set_option linter.unusedVariables false

/-! ### The leaf that the law builds -/
def rows (es : Nat → Rec) : Nat → List Value
  | 0 => []
  | m + 1 => rows es m ++ (es m).cells
theorem cells_len (r : Rec) : r.cells.length = 10 := rfl
theorem rows_len (es : Nat → Rec) : ∀ m, (rows es m).length = m * 10
  | 0 => rfl
  | m + 1 => by simp only [rows, List.length_append, rows_len es m, cells_len]; omega
theorem rows_get (es : Nat → Rec) : ∀ m i j, i < m → j < 10 → (rows es m)[i * 10 + j]? = (es i).cells[j]?
  | 0, i, j, h, _ => by omega
  | m + 1, i, j, h, hj => by
    simp only [rows]
    rcases Nat.lt_succ_iff_lt_or_eq.1 h with h1 | rfl
    · rw [List.getElem?_append_left (by rw [rows_len]; omega)]
      exact rows_get es m i j h1 hj
    · rw [List.getElem?_append_right (by rw [rows_len]; omega), rows_len]
      congr 1
      omega

theorem leaf_of_owns {w : World} {base g n cap : Nat} {es : Nat → Rec} (h : w.ownsRow base 48 10 (.slice (some ⟨g, 0, none⟩) n cap) n (rows es n)) : Leaf w g 0 n es := by
  intro i hi j u hj
  have hj10 : j < 10 := by
    rcases Nat.lt_or_ge j 10 with h1 | h1
    · exact h1
    · rw [List.getElem?_eq_none (by rw [cells_len]; exact h1)] at hj; cases hj
  have := h.cells (g := g) rfl (i * 10 + j) u (by rw [rows_get es n i j hi hj10]; exact hj)
  have hadd : (⟨g, 0, none⟩ : Addr).add (i * 10 + j) = ⟨g, 0 + i * 10 + j, none⟩ := by unfold Addr.add; split <;> simp_all
  rwa [hadd] at this

theorem Leaf.same {w w' : World} {b off n : Nat} {es : Nat → Rec} (h : Leaf w b off n es) (hw : ∀ x v, w.cell? x = some v → w'.cell? x = some v) : Leaf w' b off n es :=
  fun i hi j u hj => hw _ _ (h i hi j u hj)
theorem below_cells {w w' : World} (h : Below w.heap.size w w') : ∀ x v, w.cell? x = some v → w'.cell? x = some v :=
  fun x v hx => (h.cell (World.block_lt_of_cell? w x hx)).trans hx

/-- What is known of each record's bytes. -/
structure Ok (w : World) (r : Rec) : Prop where
  k : Byt w r.ka r.kn r.k
  v : Byt w r.va r.vn r.v
  kc : r.kn ≤ r.kc
  km : r.kc ≤ maxLen
  ka : r.ka = none → r.kn = 0
theorem Ok.same {w w' : World} {r : Rec} (h : Ok w r) (hw : ∀ x v, w.cell? x = some v → w'.cell? x = some v) : Ok w' r := ⟨h.k.same hw, h.v.same hw, h.kc, h.km, h.ka⟩

/-- The round's step: one record is appended. -/
theorem leaf_step {w wr wa w1 : World} {v v' : Value} {k : Nat} {es : Nat → Rec} (hown : wr.ownsRow w.heap.size 48 10 v k (rows es k)) (hbel : Below w.heap.size w wr) (o : Obj) (hwa : wa = wr.alloc o)
    (hown' : w1.ownsRow w.heap.size 48 10 v' (k + 1) (rows es k ++ (es k).cells)) (hgrow : wa.grownBy w1 v.ownBlock) :
    w1.ownsRow w.heap.size 48 10 v' (k + 1) (rows es (k + 1)) ∧ Below w.heap.size w w1 := by
  subst hwa
  exact ⟨hown', (hbel.alloc hbel.size o).grown hgrow (by have := hbel.size; simp; omega) (fun j hj => (hown.lt j hj).1)⟩

/-! ### ZZsplit, by kind -/
theorem zz2 (b n m c : Nat) (r : Rec) (w : World) (e : m = 1) (h2 : 2 ≤ n) (hn : n ≤ 16384) (hc : n ≤ c) (hcm : c ≤ maxLen) (h : EntAt w b (0 + m * 10) r) :
    Calls Try.prog 8 #[.slice (some ⟨b, 0, none⟩) n c, .int .i64 2] w fun e w' =>
      e = .returned (.tuple #[.slice (some ⟨b, 0, none⟩) m c, .slice r.ka r.kn r.kc, .slice (some ⟨b, m * 10, none⟩) (n - m) (c - m)]) ∧ ∃ m, w' = w.drewN m := by
  subst e
  have := zzsplit (Q := fun e w' => e = .returned (.tuple #[.slice (some ⟨b, 0, none⟩) 1 c, .slice r.ka r.kn r.kc, .slice (some ⟨b, 0 + 1 * 10, none⟩) (n - 1) (c - 1)]) ∧ ∃ m, w' = w.drewN m) _ 2 w
    ((split2 b 0 n c r w h2 hn hc hcm h).mono fun e w' ⟨he, hw⟩ => ⟨⟨_, _, _, he⟩, he, hw⟩)
  simpa using this
theorem zz0 (b n c : Nat) (kind : Int) (es : Nat → Rec) (w : World) (k1 : kind ≠ 1) (k2 : kind ≠ 2) (h2 : 2 ≤ n) (hs : Small n es) (hc : n ≤ c) (hcm : c ≤ maxLen) (h : Leaf w b 0 n es) :
    Calls Try.prog 8 #[.slice (some ⟨b, 0, none⟩) n c, .int .i64 kind] w fun e w' =>
      ∃ m, Divides es n m ∧ e = .returned (.tuple #[.slice (some ⟨b, 0, none⟩) m c, .slice (es m).ka (es m).kn (es m).kc, .slice (some ⟨b, m * 10, none⟩) (n - m) (c - m)]) ∧ ∃ q, w' = w.drewN q :=
  zzsplit _ kind w ((split0 b 0 n c kind es w k1 k2 h2 hs hc hcm h).mono fun e w' ⟨m, hd, he, hw⟩ => ⟨⟨_, _, _, he⟩, m, hd, by simpa using he, hw⟩)
theorem zz1 (b n m p c : Nat) (r : Rec) (w : World) (e1 : n = m + 1) (e2 : m = p + 1) (hn : n ≤ 16384) (hc : n ≤ c) (hcm : c ≤ maxLen) (h : EntAt w b (0 + p * 10) r) (hb : b < w.heap.size)
    (hk : r.kn ≤ 1048576) (hkc : r.kn ≤ r.kc) (hkm : r.kc ≤ maxLen) (hka : r.ka = none → r.kn = 0) (Bk : Byt w r.ka r.kn r.k) :
    Calls Try.prog 8 #[.slice (some ⟨b, 0, none⟩) n c, .int .i64 1] w fun e w' =>
      ∃ gb cb, e = .returned (.tuple #[.slice (some ⟨b, 0, none⟩) m c, .slice (some ⟨gb, 0, none⟩) (r.kn + 1) cb, .slice (some ⟨b, m * 10, none⟩) (n - m) (c - m)]) ∧
        w'.ownsRow w.heap.size 5 1 (.slice (some ⟨gb, 0, none⟩) (r.kn + 1) cb) (r.kn + 1) (r.k.map (Value.int .u8) ++ [.int .u8 0]) ∧ Below w.heap.size w w' :=
  zzsplit _ 1 w ((split1 b 0 n m p c r w e1 e2 hn hc hcm h hb hk hkc hkm hka Bk).mono fun e w' ⟨v', he, hown, hbel⟩ => by
    obtain ⟨gb, cb, rfl, _⟩ := hown.form (by omega)
    exact ⟨⟨_, _, _, he⟩, gb, cb, by simpa using he, hown, hbel⟩)

end Go.Proofs.Qxb6631276a
