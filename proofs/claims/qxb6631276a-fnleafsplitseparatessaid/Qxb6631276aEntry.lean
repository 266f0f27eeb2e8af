import Derived.Test.Qxb6631276aSizes
import Derived.Deep.AppendLies
namespace Go.Proofs.Qxb6631276a
open Go.RowKit
set_option linter.unusedVariables false

theorem Try.info48 : (Try.prog.info? 48).map (fun i => (i.zero, i.size, i.bytes)) = some (some (.agg #[.slice none 0 0, .int .u64 0, .bool false, .int .u32 0, .int .u16 0, .slice none 0 0, .int .u32 0, .int .u32 0, .int .u32 0, .slice none 0 0]), 10, 112) := by kernel_rfl

theorem cells_one (r : Rec) : ∀ u ∈ r.cells, u.oneCell' = true := by
  intro u hu
  simp [Rec.cells] at hu
  rcases hu with rfl | rfl | rfl | rfl | rfl | rfl | rfl | rfl | rfl | rfl <;> rfl

set_option maxHeartbeats 400000 in
theorem appendEntry (base : Nat) (v : Value) (n : Nat) (xs : List Value) (r : Rec) (w : World) (hown : w.ownsRow base 48 10 v n xs) (hn : n ≤ 16384) (hbase : base ≤ w.heap.size) :
    Calls Try.prog 7 #[v, .slice r.ka r.kn r.kc, .int .u64 r.txn, .bool r.del, .slice r.va r.vn r.vc, .int .u32 r.f, .int .u32 r.s] w fun e w' =>
      ∃ v', e = .returned v' ∧ w'.ownsRow base 48 10 v' (n + 1) (xs ++ r.cells) ∧ w.grownBy w' v.ownBlock := by
  obtain ⟨i0, hi, hz0, hz1, hz2⟩ := info_parts Try.info48
  go_enter Try.func7, Try.ntmps7
  go_wp2_with (at_builtin; refine wpList_append_own _ rfl _ _ 26 rfl base 48 i0 _ 10 112 Try.underlying26 hi hz0 hz1 hz2 rfl (by decide) _ _ _ rfl (hown.alloc _) ⟨w.heap.size, 0, none⟩ 1 1 r.cells rfl rfl ?c1 ?c2 ?c3 ?c4 ?c5 ?_)
  case c1 => exact World.news_of_block (heap_alloc_new w _)
  case c2 => exact cells_one r
  case c3 => unfold maxLen; omega
  case c4 => omega
  case c5 => simp; omega
  intro v' w1 hown' hgrow _
  go_wp2
  go_ret
  refine ⟨v', rfl, hown', ?_⟩
  exact ⟨hgrow.os, hgrow.tape, hgrow.output, Nat.le_trans (by simp) hgrow.size, fun k hk hne => (hgrow.block k (by simp; omega) hne).trans (Below.heap_alloc w _ k hk)⟩

/-! ### ZZentry -/
set_option maxHeartbeats 1000000 in
theorem entryOf (b off n c i : Nat) (r : Rec) (w : World) (hi : i < n) (hn : n ≤ 16384) (h : EntAt w b (off + i * 10) r) :
    Calls Try.prog 14 #[.slice (some ⟨b, off, none⟩) n c, .int .i64 i] w fun e w' =>
      e = .returned (.tuple #[.slice r.ka r.kn r.kc, .int .u64 r.txn, .bool r.del, .slice r.va r.vn r.vc, .int .u32 r.f, .int .u32 r.s]) ∧ ∃ m, w' = w.drewN m := by
  have i1 : (0 : Int) ≤ (i : Int) := by omega
  have i2 : (i : Int) < (n : Int) := by omega
  have h0 : w.cell? ⟨b, off + i * 10, none⟩ = some (.slice r.ka r.kn r.kc) := h 0 _ rfl
  have h1 : w.cell? ⟨b, off + i * 10 + 1, none⟩ = some (.int .u64 r.txn) := h 1 _ rfl
  have h2 : w.cell? ⟨b, off + i * 10 + 1 + 1, none⟩ = some (.bool r.del) := h 2 _ rfl
  have h4 : w.cell? ⟨b, off + i * 10 + 1 + 4, none⟩ = some (.slice r.va r.vn r.vc) := h 5 _ rfl
  have h5 : w.cell? ⟨b, off + i * 10 + 1 + 5, none⟩ = some (.int .u32 r.f) := h 6 _ rfl
  have h6 : w.cell? ⟨b, off + i * 10 + 1 + 5 + 1, none⟩ = some (.int .u32 r.s) := h 7 _ rfl
  clear h
  go_enter Try.func14, Try.ntmps14
  go_wp2
  go_quiet (fail)
  go_wp2
  exact bodyPost_ret (v := .tuple #[.slice r.ka r.kn r.kc, .int .u64 r.txn, .bool r.del, .slice r.va r.vn r.vc, .int .u32 r.f, .int .u32 r.s]) (by simp [results, Try.results14, go_sem]) rfl ⟨rfl, _, rfl⟩

/-! ### sameEntry, of a record and itself -/
theorem Byt.drewN {w : World} {a : Option Addr} {n : Nat} {l : List Int} (h : Byt w a n l) (q : Nat) : Byt (w.drewN q) a n l := ⟨h.len, h.cell⟩
theorem below_drawn {B : Nat} {a w : World} (h : Below B a w) (q : Nat) : Below B a (w.drewN q) := ⟨h.os, h.tape, h.output, h.size, h.block⟩
theorem refl_bool {α : Type} [DecidableEq α] (a : α) : decide (a = a) = true := by simp

set_option maxHeartbeats 1000000 in
theorem sameEntry (b off n c i : Nat) (r : Rec) (w : World) (hi : i < n) (hn : n ≤ 16384) (hk : r.kn ≤ 1048576) (hv : r.vn ≤ 1048576) (h : EntAt w b (off + i * 10) r) (hb : b < w.heap.size)
    (Bk : Byt w r.ka r.kn r.k) (Bv : Byt w r.va r.vn r.v) :
    Calls Try.prog 11 #[.slice (some ⟨b, off, none⟩) n c, .int .i64 i, .agg #[.slice r.ka r.kn r.kc, .int .u64 r.txn, .bool r.del, .slice r.va r.vn r.vc, .int .u32 r.f, .int .u32 r.s]] w fun e w' =>
      e = .returned (.bool true) ∧ Below w.heap.size w w' := by
  have HE : Hid (∀ o, EntAt (w.alloc o) b (off + i * 10) r) := fun o j u hj => by
    rw [← h j u hj]
    exact World.cell?_of_block (Below.heap_alloc w o b hb)
  have keep : ∀ o, ∀ x v, w.cell? x = some v → (w.alloc o).cell? x = some v := fun o x v hx => by
    rw [← hx]
    exact World.cell?_of_block (Below.heap_alloc w o _ (World.block_lt_of_cell? w x hx))
  have HK : Hid (∀ o, Byt (w.alloc o) r.ka r.kn r.k) := fun o => Bk.same (keep o)
  have HV : Hid (∀ o, Byt (w.alloc o) r.va r.vn r.v) := fun o => Bv.same (keep o)
  clear keep h Bk Bv
  go_enter Try.func11, Try.ntmps11
  go_wp2_with fail
  refine (entryOf b off n c i r _ hi hn (HE.out _)).mono ?_
  rintro e w' ⟨rfl, q, rfl⟩
  go_wp2_with fail
  refine (eqb _ _ _ _ _ _ r.k r.k _ (by unfold maxLen; omega) (by exact (HK.out _).drewN _) (by exact (HK.out _).drewN _)).mono ?_
  rintro e w' ⟨rfl, q', rfl⟩
  rw [refl_bool]
  go_wp2_with fail
  refine (eqb _ _ _ _ _ _ r.v r.v _ (by unfold maxLen; omega) (by exact (HV.out _).drewN _) (by exact (HV.out _).drewN _)).mono ?_
  rintro e w' ⟨rfl, q'', rfl⟩
  rw [refl_bool]
  go_wp2
  go_ret
  exact ⟨rfl, below_drawn ((Below.refl _ _).alloc (Nat.le_refl _) _) _⟩
end Go.Proofs.Qxb6631276a
