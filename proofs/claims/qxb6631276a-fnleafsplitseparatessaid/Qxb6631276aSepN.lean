import Derived.Test.Qxb6631276aSepPre
namespace Go.Proofs.Qxb6631276a
open Go.RowKit
set_option linter.unusedVariables false

set_option maxRecDepth 100000 in
set_option maxHeartbeats 4000000 in
theorem sepn (b off n c : Nat) (kind : Int) (k1 : kind ≠ 1) (es : Nat → Rec) (w : World) (hn : n ≤ c) (hc : c ≤ maxLen) (h : Ins w b off n es) (hok : ∀ i, i < n → Ok w (es i)) (hnn : ∀ i, i < n → ∀ x ∈ (es i).k, 0 ≤ x) (hbw : b < w.heap.size) :
    Calls Try.prog 4 #[.slice (some ⟨b, off, none⟩) n c, .int .i64 kind] w fun e w' => e = .returned (.bool true) ∧ Below w.heap.size w w' := by
  have hnm : n ≤ maxLen := by omega
  have hnm' := hnm
  unfold maxLen at hnm'
  have e1 : (kind == 1) = false := by simpa using k1
  go_enter Try.func4, Try.ntmps4
  go_wp2_with fail
  refine (zzb12 b off n c kind es _ hnm h).mono ?_
  rintro e w' ⟨⟨x, rfl⟩, rfl⟩
  cases x
  · go_wp2
    go_ret
    exact ⟨rfl, Below.refl _ _⟩
  go_wp2_with fail
  refine (within b off n c es _ hnm h).mono ?_
  rintro e w ⟨⟨x, rfl, hs⟩, rfl⟩
  cases x
  · go_wp2
    go_ret
    exact ⟨rfl, Below.refl _ _⟩
  have hs := hs rfl
  by_cases h2 : n < 2
  · go_wp2
    go_ret
    exact ⟨rfl, Below.refl _ _⟩
  have hs1 := hs.1
  have HS : Hid (Small n es) := hs
  clear hs
  go_wp2
  go_loopw [6] (fun i wr => ∃ j m : Nat, 1 ≤ j ∧ j ≤ n ∧ i = .int .i64 j ∧ Asc j es ∧ wr = w.drewN m) (fun i _ => n - (intOf i).toNat)
  case atStart => exact ⟨1, 0, Nat.le_refl _, by omega, rfl, fun i hi => by omega, rfl⟩
  case round =>
  obtain ⟨j, m, hj1, hj, rfl, hasc, hwr⟩ := hrel
  have HW : Hid (wr = w.drewN m) := hwr
  have hcw : ∀ x v, w.cell? x = some v → wr.cell? x = some v := fun x v hx => by rw [hwr]; exact hx
  clear hwr
  by_cases hlt : j < n
  · obtain ⟨p, E⟩ : ∃ p : Nat, Hid (j = p + 1) := ⟨j - 1, by show j = _; omega⟩
    have hp : p < n := by have := E.out; omega
    have g0 : wr.cell? ⟨b, off + p * 6, none⟩ = some (.slice (es p).ka (es p).kn (es p).kc) := hcw _ _ (h p hp 0 _ rfl)
    have g1 : wr.cell? ⟨b, off + j * 6, none⟩ = some (.slice (es j).ka (es j).kn (es j).kc) := hcw _ _ (h j hlt 0 _ rfl)
    obtain ⟨s1, s2⟩ := HS.out.2 p hp
    obtain ⟨s3, s4⟩ := HS.out.2 j hlt
    have ok1 : Hid _ := (hok p hp).k.same hcw
    have ok2 : Hid _ := (hok j hlt).k.same hcw
    clear hcw
    have f2 : (j : Int) - 1 = (p : Int) := by have := E.out; omega
    have wr1 : IntKind.i64.wrap (p : Int) = (p : Int) := by rw [IntWalk.i64_left, IntWalk.wrap64_in _ (by omega)]
    have i1 : (0 : Int) ≤ (p : Int) := by omega
    have i2 : (p : Int) < (n : Int) := by omega
    have i3 : (0 : Int) ≤ (j : Int) := by omega
    have i4 : (j : Int) < (n : Int) := by omega
    have con : ∀ q, Calls Try.prog 13 #[.slice (es p).ka (es p).kn (es p).kc, .slice (es j).ka (es j).kn (es j).kc] (wr.drewN q) fun e w' => e = .returned (.bool (lessL (es p).k (es j).k)) ∧ ∃ z, w' = (wr.drewN q).drewN z :=
      fun q => lessb _ _ _ _ _ _ _ _ _ (by unfold maxLen; omega) (by unfold maxLen; omega) (ok1.out.drewN _) (ok2.out.drewN _)
    cases hl : lessL (es p).k (es j).k
    · rw [hl] at con
      have CON : Hid _ := con
      clear con
      go_wp2
      go_quiet (first | (go_at_call 13; exact Calls.quiet_of (CON.out _)))
      go_wp2
      go_ret
      exact ⟨rfl, below_drawn (by rw [HW.out]; exact below_drawn (Below.refl _ _) _) _⟩
    · rw [hl] at con
      have CON : Hid _ := con
      clear con
      have HA : Hid (Asc (j + 1) es) := by have e := E.out; subst e; exact Asc.succ hasc hl
      go_wp2
      go_quiet (first | (go_at_call 13; exact Calls.quiet_of (CON.out _)))
      go_wp2
      go_roundw
      case rel => exact ⟨j + 1, m + nq, by omega, by omega, by go_num, HA.out, by rw [HW.out]; simp⟩
      case measure => simp [intOf]; omega
  obtain rfl : n = j := by omega
  have w0b : Below w.heap.size w wr := by rw [HW.out]; exact below_drawn (Below.refl _ _) _
  clear hj hlt hj1 hcw HW
  go_wp2
  go_loopw [7, 8] (fun v i wr => ∃ (k : Nat) (G : Nat → Nat), k ≤ n ∧ i = .int .i64 k ∧ wr.ownsRow w.heap.size 48 10 v k (rows (cp es G) k) ∧ Below w.heap.size w wr ∧ Keys wr w.heap.size k es G) (fun _ i _ => n - (intOf i).toNat)
  case atStart => exact ⟨0, fun _ => 0, Nat.zero_le _, rfl, World.ownsRow_nil _ _ _ _, w0b, fun i hi => by omega⟩
  case round =>
  clear w0b
  obtain ⟨k, G, hk, rfl, hown, hbel, hkeys⟩ := hrel
  by_cases hlt : k < n
  · obtain ⟨s1, s2⟩ := HS.out.2 k hlt
    have okk := (hok k hlt).k.same (below_cells hbel)
    have OKK : Hid _ := okk
    clear okk
    have mk : ∀ w, (Instr.makeSlice 27 (.int .i64 ((es k).kn : Int)) (.int .i64 (((es k).kn : Int) + 1))).run Try.prog w = .ok (.slice (some ⟨w.heap.size, 0, none⟩) (es k).kn ((es k).kn + 1)) (w.alloc (.cells (zeroL ((es k).kn + 1)).toArray 5)) := mkKey _ s1
    have gc : ∀ j u, (es k).icells[j]? = some u → wr.cell? ⟨b, off + k * 6 + j, none⟩ = some u := fun j u hj => (hbel.cell (p := ⟨b, off + k * 6 + j, none⟩) hbw).trans (h k hlt j u hj)
    have g0 : wr.cell? ⟨b, off + k * 6, none⟩ = some (.slice (es k).ka (es k).kn (es k).kc) := gc 0 _ rfl
    have g1 : wr.cell? ⟨b, off + k * 6 + 1, none⟩ = some (.int .u64 (es k).txn) := gc 1 _ rfl
    have g2 : wr.cell? ⟨b, off + k * 6 + 2, none⟩ = some (.bool (es k).del) := gc 2 _ rfl
    have g3 : wr.cell? ⟨b, off + k * 6 + 3, none⟩ = some (.slice (es k).va (es k).vn (es k).vc) := gc 3 _ rfl
    have g4 : wr.cell? ⟨b, off + k * 6 + 4, none⟩ = some (.int .u32 (es k).f) := gc 4 _ rfl
    have g5 : wr.cell? ⟨b, off + k * 6 + 5, none⟩ = some (.int .u32 (es k).s) := gc 5 _ rfl
    clear gc
    obtain ⟨w4, hrun, hg4, hb4⟩ := copyKey (es k) (.cells #[.slice (es k).ka (es k).kn (es k).kc, .int .u64 (es k).txn, .bool (es k).del, .slice (es k).va (es k).vn (es k).vc, .int .u32 (es k).f, .int .u32 (es k).s] 31) OKK.out
    have tb := box_at (r := es k) hb4
    have t1 : w4.cell? ⟨wr.heap.size, 1, none⟩ = some (.int .u64 (es k).txn) := tb 1 _ rfl
    have t2 : w4.cell? ⟨wr.heap.size, 2, none⟩ = some (.bool (es k).del) := tb 2 _ rfl
    have t3 : w4.cell? ⟨wr.heap.size, 3, none⟩ = some (.slice (es k).va (es k).vn (es k).vc) := tb 3 _ rfl
    have t4 : w4.cell? ⟨wr.heap.size, 4, none⟩ = some (.int .u32 (es k).f) := tb 4 _ rfl
    have t5 : w4.cell? ⟨wr.heap.size, 5, none⟩ = some (.int .u32 (es k).s) := tb 5 _ rfl
    have own4 : Hid (w4.ownsRow w.heap.size 48 10 u7 k (rows (cp es G) k)) := owns_below ((hown.alloc _).alloc _) hb4 (fun g hg => Nat.lt_succ_of_lt (hown.lt g hg).2)
    have sz4 : Hid (w.heap.size ≤ w4.heap.size) := by have h1 := hb4.size; have h2 := hbel.size; simp at h1; show _ ≤ _; omega
    have HG4 : Hid _ := hg4
    have HB4 : Hid _ := hb4
    clear hg4 hb4 tb
    go_wp2_with fail
    refine (appendEntry w.heap.size _ k (rows (cp es G) k) (cpr (es k) (wr.heap.size + 1)) _ own4.out (by omega) sz4.out).mono ?_
    rintro e w5 ⟨v', rfl, hown', hgrow⟩
    have R := sep_step hown hbel hkeys HG4.out HB4.out hown' hgrow
    have R' : Hid _ := R
    clear R hown' hgrow hown g0 g1 g2 g3 g4 g5 t1 t2 t3 t4 t5 hbel hkeys hrun own4 sz4 HG4 HB4 mk OKK
    go_wp2
    go_roundw
    case rel => exact ⟨k + 1, upd G k (wr.heap.size + 1), by omega, by go_num, R'.out⟩
    case measure => simp [intOf]; omega
  have hkn : n = k := by omega
  subst hkn
  clear hk hlt
  obtain ⟨g, cap, rfl, hg, hgl⟩ := hown.form (by omega)
  have hlf := leaf_of_owns hown
  obtain ⟨hc1, hc2⟩ : n ≤ cap ∧ cap ≤ maxLen := by
    rcases hown.2 with ⟨h0, _⟩ | ⟨g', cap', cur, hv, _, _, h1, h2, _⟩
    · cases h0
    · cases hv; exact ⟨h1, h2⟩
  have hkb := keys_byt hkeys hok
  have hin : Ins wr b off n es := fun i hi j u hj => (hbel.cell (p := ⟨b, off + i * 6 + j, none⟩) hbw).trans (h i hi j u hj)
  have hokw : ∀ i, i < n → Ok wr (es i) := fun i hi => (hok i hi).same (below_cells hbel)
  clear hown hkeys
  go_wp2_with fail
  refine (zzn g n cap kind (cp es G) _ k1 (by omega) (small_cp HS.out G) hc1 hc2 hlf).mono ?_
  rintro e w' ⟨m, ⟨m1, m2⟩, rfl, q, rfl⟩
  have q1 : ((n - m : Nat) : Int) = (n : Int) - m := by omega
  have qq : (m : Int) + ((n : Int) - (m : Int)) = (n : Int) := by omega
  have hbel' : Below w.heap.size w (wr.drewN q) := below_drawn hbel _
  have hlf' : Leaf (wr.drewN q) g 0 n (cp es G) := hlf
  have hkb' : ∀ i, i < n → Byt (wr.drewN q) (cp es G i).ka (cp es G i).kn (es i).k := fun i hi => (hkb i hi).drewN q
  have hin' : Ins (wr.drewN q) b off n es := hin
  have hokw' : ∀ i, i < n → Ok (wr.drewN q) (es i) := fun i hi => (hokw i hi).same (fun _ _ hx => hx)
  clear hbel hlf hkb hin hokw hgl
  generalize wr.drewN q = w2 at *
  have hbel := hbel'
  have hlf := hlf'
  have hkb := hkb'
  have hin := hin'
  have hokw := hokw'
  clear hbel' hlf' hkb' hin' hokw'
  obtain ⟨bl, BL⟩ : ∃ bl, Hid (bl = (es m).k) := ⟨_, rfl⟩
  have PT : Hid (Parts n m es bl) := by rw [BL.out]; exact parts_at hasc (by omega)
  have BB : Hid (Byt w2 (cp es G m).ka (cp es G m).kn bl) := by rw [BL.out]; exact hkb m (by omega)
  have bm : (cp es G m).kn ≤ maxLen := by have : (cp es G m).kn ≤ 1048576 := (HS.out.2 m (by omega)).1; unfold maxLen; omega
  clear hasc
  go_wp2
  go_loopw [15] (fun i wx => ∃ k z : Nat, k ≤ m ∧ i = .int .i64 k ∧ wx = w2.drewN z) (fun i _ => n - (intOf i).toNat)
  case atStart => exact ⟨0, 0, Nat.zero_le _, rfl, rfl⟩
  case round =>
  obtain ⟨k, z, hk, rfl, rfl⟩ := hrel
  by_cases hlt : k < m
  · have ent := hlf k (by omega)
    have kb : Hid _ := hkb k (by omega)
    have s1 : (cp es G k).kn ≤ 1048576 := (HS.out.2 k (by omega)).1
    have lo : Hid _ := PT.out.lo k hlt
    go_wp2_with fail
    refine (entryOf g 0 m cap k (cp es G k) _ hlt (by omega) (by exact ent)).mono ?_
    rintro e w' ⟨rfl, q2, rfl⟩
    go_wp2_with fail
    refine (lessb _ _ _ _ _ _ (es k).k bl _ (by unfold maxLen; omega) bm (by exact kb.out.drewN _) (by exact BB.out.drewN _)).mono ?_
    rintro e w' ⟨rfl, q3, rfl⟩
    rw [lo.out]
    clear ent kb s1 lo
    go_wp2
    go_roundw
    case rel => exact ⟨k + 1, _, by omega, by go_num, rfl⟩
    case measure => simp [intOf]; omega
  go_wp2
  clear hk hlt
  go_loopw [22] (fun i wx => ∃ k z : Nat, k ≤ n - m ∧ i = .int .i64 k ∧ wx = w2.drewN z) (fun i _ => n - (intOf i).toNat)
  case atStart => exact ⟨0, z, Nat.zero_le _, rfl, rfl⟩
  case round =>
  obtain ⟨k, z, hk, rfl, rfl⟩ := hrel
  by_cases hlt : k < n - m
  · have ent : EntAt w2 g (m * 10 + k * 10) (cp es G (m + k)) := by rw [show m * 10 + k * 10 = 0 + (m + k) * 10 from by omega]; exact hlf (m + k) (by omega)
    have kb : Hid _ := hkb (m + k) (by omega)
    have s1 : (cp es G (m + k)).kn ≤ 1048576 := (HS.out.2 (m + k) (by omega)).1
    have lo : Hid _ := PT.out.hi (m + k) (by omega) (by omega)
    go_wp2_with fail
    refine (entryOf g (m * 10) (n - m) (cap - m) k (cp es G (m + k)) _ hlt (by omega) (by exact ent)).mono ?_
    rintro e w' ⟨rfl, q2, rfl⟩
    go_wp2_with fail
    refine (lessb _ _ _ _ _ _ (es (m + k)).k bl _ (by unfold maxLen; omega) bm (by exact kb.out.drewN _) (by exact BB.out.drewN _)).mono ?_
    rintro e w' ⟨rfl, q3, rfl⟩
    rw [lo.out]
    clear ent kb s1 lo
    go_wp2
    go_roundw
    case rel => exact ⟨k + 1, _, by omega, by go_num, rfl⟩
    case measure => simp [intOf]; omega
  go_wp2
  clear hk hlt bm BB PT BL
  go_loopw [30] (fun i wx => ∃ k z : Nat, k ≤ n ∧ i = .int .i64 k ∧ wx = w2.drewN z) (fun i _ => n - (intOf i).toNat)
  case atStart => exact ⟨0, z, Nat.zero_le _, rfl, rfl⟩
  case round =>
  obtain ⟨k, z, hk, rfl, rfl⟩ := hrel
  by_cases hlt : k < n
  · have kb : Hid _ := hkb k hlt
    have okk : Hid _ := (hokw k hlt).k
    have s1 : (cp es G k).kn ≤ 1048576 := (HS.out.2 k hlt).1
    have g0 : w2.cell? ⟨b, off + k * 6, none⟩ = some (.slice (es k).ka (es k).kn (es k).kc) := hin k hlt 0 _ rfl
    by_cases hkm : k < m
    · have ent := hlf k hlt
      go_wp2_with fail
      refine (entryOf g 0 m cap k (cp es G k) _ hkm (by omega) (by exact ent)).mono ?_
      rintro e w' ⟨rfl, q2, rfl⟩
      go_wp2_with fail
      refine (eqb _ _ _ _ _ _ (es k).k (es k).k _ (by unfold maxLen; omega) (by exact kb.out.drewN _) (by exact okk.out.drewN _)).mono ?_
      rintro e w' ⟨rfl, q3, rfl⟩
      rw [refl_bool]
      clear ent kb s1 okk g0
      go_wp2
      go_roundw
      case rel => exact ⟨k + 1, _, by omega, by go_num, rfl⟩
      case measure => simp [intOf]; omega
    · have ent : EntAt w2 g (m * 10 + (k - m) * 10) (cp es G k) := by rw [show m * 10 + (k - m) * 10 = 0 + k * 10 from by omega]; exact hlf k hlt
      have q5 : (k : Int) - (m : Int) = ((k - m : Nat) : Int) := by omega
      have Q5 : Hid _ := q5
      clear q5
      go_wp2_with fail
      rw [Q5.out]
      refine (entryOf g (m * 10) (n - m) (cap - m) (k - m) (cp es G k) _ (by omega) (by omega) (by exact ent)).mono ?_
      rintro e w' ⟨rfl, q2, rfl⟩
      go_wp2_with fail
      refine (eqb _ _ _ _ _ _ (es k).k (es k).k _ (by unfold maxLen; omega) (by exact kb.out.drewN _) (by exact okk.out.drewN _)).mono ?_
      rintro e w' ⟨rfl, q3, rfl⟩
      rw [refl_bool]
      clear ent kb s1 okk g0
      go_wp2
      go_roundw
      case rel => exact ⟨k + 1, _, by omega, by go_num, rfl⟩
      case measure => simp [intOf]; omega
  go_wp2
  go_ret
  exact ⟨rfl, below_drawn hbel _⟩
end Go.Proofs.Qxb6631276a
