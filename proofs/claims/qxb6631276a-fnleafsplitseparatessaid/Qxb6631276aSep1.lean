import Derived.Test.Qxb6631276aSepPre
namespace Go.Proofs.Qxb6631276a
open Go.RowKit
set_option linter.unusedVariables false

set_option maxRecDepth 100000 in
set_option maxHeartbeats 4000000 in
theorem sep1 (b off n c : Nat) (es : Nat → Rec) (w : World) (hn : n ≤ c) (hc : c ≤ maxLen) (h : Ins w b off n es) (hok : ∀ i, i < n → Ok w (es i)) (hnn : ∀ i, i < n → ∀ x ∈ (es i).k, 0 ≤ x) (hbw : b < w.heap.size) :
    Calls Try.prog 4 #[.slice (some ⟨b, off, none⟩) n c, .int .i64 1] w fun e w' => e = .returned (.bool true) ∧ Below w.heap.size w w' := by
  have hnm : n ≤ maxLen := by omega
  have hnm' := hnm
  unfold maxLen at hnm'
  go_enter Try.func4, Try.ntmps4
  go_wp2_with fail
  refine (zzb12 b off n c 1 es _ hnm h).mono ?_
  rintro e w' ⟨⟨x, rfl⟩, rfl⟩
  cases x
  · go_wp2
    go_ret
    exact ⟨rfl, Below.refl _ _⟩
  go_wp2_with fail
  refine (within b off n c es _ hnm h).mono ?_
  rintro e w ⟨⟨x, rfl, hs⟩, rfl⟩
  cases x
  · go_wp2
    go_ret
    exact ⟨rfl, Below.refl _ _⟩
  have hs := hs rfl
  by_cases h2 : n < 2
  · go_wp2
    go_ret
    exact ⟨rfl, Below.refl _ _⟩
  have hs1 := hs.1
  have HS : Hid (Small n es) := hs
  clear hs
  go_wp2
  go_loopw [6] (fun i wr => ∃ j m : Nat, 1 ≤ j ∧ j ≤ n ∧ i = .int .i64 j ∧ Asc j es ∧ wr = w.drewN m) (fun i _ => n - (intOf i).toNat)
  case atStart => exact ⟨1, 0, Nat.le_refl _, by omega, rfl, fun i hi => by omega, rfl⟩
  case round =>
  obtain ⟨j, m, hj1, hj, rfl, hasc, hwr⟩ := hrel
  have HW : Hid (wr = w.drewN m) := hwr
  have hcw : ∀ x v, w.cell? x = some v → wr.cell? x = some v := fun x v hx => by rw [hwr]; exact hx
  clear hwr
  by_cases hlt : j < n
  · obtain ⟨p, E⟩ : ∃ p : Nat, Hid (j = p + 1) := ⟨j - 1, by show j = _; omega⟩
    have hp : p < n := by have := E.out; omega
    have g0 : wr.cell? ⟨b, off + p * 6, none⟩ = some (.slice (es p).ka (es p).kn (es p).kc) := hcw _ _ (h p hp 0 _ rfl)
    have g1 : wr.cell? ⟨b, off + j * 6, none⟩ = some (.slice (es j).ka (es j).kn (es j).kc) := hcw _ _ (h j hlt 0 _ rfl)
    obtain ⟨s1, s2⟩ := HS.out.2 p hp
    obtain ⟨s3, s4⟩ := HS.out.2 j hlt
    have ok1 : Hid _ := (hok p hp).k.same hcw
    have ok2 : Hid _ := (hok j hlt).k.same hcw
    clear hcw
    have f2 : (j : Int) - 1 = (p : Int) := by have := E.out; omega
    have wr1 : IntKind.i64.wrap (p : Int) = (p : Int) := by rw [IntWalk.i64_left, IntWalk.wrap64_in _ (by omega)]
    have i1 : (0 : Int) ≤ (p : Int) := by omega
    have i2 : (p : Int) < (n : Int) := by omega
    have i3 : (0 : Int) ≤ (j : Int) := by omega
    have i4 : (j : Int) < (n : Int) := by omega
    have con : ∀ q, Calls Try.prog 13 #[.slice (es p).ka (es p).kn (es p).kc, .slice (es j).ka (es j).kn (es j).kc] (wr.drewN q) fun e w' => e = .returned (.bool (lessL (es p).k (es j).k)) ∧ ∃ z, w' = (wr.drewN q).drewN z :=
      fun q => lessb _ _ _ _ _ _ _ _ _ (by unfold maxLen; omega) (by unfold maxLen; omega) (ok1.out.drewN _) (ok2.out.drewN _)
    cases hl : lessL (es p).k (es j).k
    · rw [hl] at con
      have CON : Hid _ := con
      clear con
      go_wp2
      go_quiet (first | (go_at_call 13; exact Calls.quiet_of (CON.out _)))
      go_wp2
      go_ret
      exact ⟨rfl, below_drawn (by rw [HW.out]; exact below_drawn (Below.refl _ _) _) _⟩
    · rw [hl] at con
      have CON : Hid _ := con
      clear con
      have HA : Hid (Asc (j + 1) es) := by have e := E.out; subst e; exact Asc.succ hasc hl
      go_wp2
      go_quiet (first | (go_at_call 13; exact Calls.quiet_of (CON.out _)))
      go_wp2
      go_roundw
      case rel => exact ⟨j + 1, m + nq, by omega, by omega, by go_num, HA.out, by rw [HW.out]; simp⟩
      case measure => simp [intOf]; omega
  obtain rfl : n = j := by omega
  have w0b : Below w.heap.size w wr := by rw [HW.out]; exact below_drawn (Below.refl _ _) _
  clear hj hlt hj1 hcw HW
  go_wp2
  go_loopw [7, 8] (fun v i wr => ∃ (k : Nat) (G : Nat → Nat), k ≤ n ∧ i = .int .i64 k ∧ wr.ownsRow w.heap.size 48 10 v k (rows (cp es G) k) ∧ Below w.heap.size w wr ∧ Keys wr w.heap.size k es G) (fun _ i _ => n - (intOf i).toNat)
  case atStart => exact ⟨0, fun _ => 0, Nat.zero_le _, rfl, World.ownsRow_nil _ _ _ _, w0b, fun i hi => by omega⟩
  case round =>
  clear w0b
  obtain ⟨k, G, hk, rfl, hown, hbel, hkeys⟩ := hrel
  by_cases hlt : k < n
  · obtain ⟨s1, s2⟩ := HS.out.2 k hlt
    have okk := (hok k hlt).k.same (below_cells hbel)
    have OKK : Hid _ := okk
    clear okk
    have mk : ∀ w, (Instr.makeSlice 27 (.int .i64 ((es k).kn : Int)) (.int .i64 (((es k).kn : Int) + 1))).run Try.prog w = .ok (.slice (some ⟨w.heap.size, 0, none⟩) (es k).kn ((es k).kn + 1)) (w.alloc (.cells (zeroL ((es k).kn + 1)).toArray 5)) := mkKey _ s1
    have gc : ∀ j u, (es k).icells[j]? = some u → wr.cell? ⟨b, off + k * 6 + j, none⟩ = some u := fun j u hj => (hbel.cell (p := ⟨b, off + k * 6 + j, none⟩) hbw).trans (h k hlt j u hj)
    have g0 : wr.cell? ⟨b, off + k * 6, none⟩ = some (.slice (es k).ka (es k).kn (es k).kc) := gc 0 _ rfl
    have g1 : wr.cell? ⟨b, off + k * 6 + 1, none⟩ = some (.int .u64 (es k).txn) := gc 1 _ rfl
    have g2 : wr.cell? ⟨b, off + k * 6 + 2, none⟩ = some (.bool (es k).del) := gc 2 _ rfl
    have g3 : wr.cell? ⟨b, off + k * 6 + 3, none⟩ = some (.slice (es k).va (es k).vn (es k).vc) := gc 3 _ rfl
    have g4 : wr.cell? ⟨b, off + k * 6 + 4, none⟩ = some (.int .u32 (es k).f) := gc 4 _ rfl
    have g5 : wr.cell? ⟨b, off + k * 6 + 5, none⟩ = some (.int .u32 (es k).s) := gc 5 _ rfl
    clear gc
    obtain ⟨w4, hrun, hg4, hb4⟩ := copyKey (es k) (.cells #[.slice (es k).ka (es k).kn (es k).kc, .int .u64 (es k).txn, .bool (es k).del, .slice (es k).va (es k).vn (es k).vc, .int .u32 (es k).f, .int .u32 (es k).s] 31) OKK.out
    have tb := box_at (r := es k) hb4
    have t1 : w4.cell? ⟨wr.heap.size, 1, none⟩ = some (.int .u64 (es k).txn) := tb 1 _ rfl
    have t2 : w4.cell? ⟨wr.heap.size, 2, none⟩ = some (.bool (es k).del) := tb 2 _ rfl
    have t3 : w4.cell? ⟨wr.heap.size, 3, none⟩ = some (.slice (es k).va (es k).vn (es k).vc) := tb 3 _ rfl
    have t4 : w4.cell? ⟨wr.heap.size, 4, none⟩ = some (.int .u32 (es k).f) := tb 4 _ rfl
    have t5 : w4.cell? ⟨wr.heap.size, 5, none⟩ = some (.int .u32 (es k).s) := tb 5 _ rfl
    have own4 : Hid (w4.ownsRow w.heap.size 48 10 u7 k (rows (cp es G) k)) := owns_below ((hown.alloc _).alloc _) hb4 (fun g hg => Nat.lt_succ_of_lt (hown.lt g hg).2)
    have sz4 : Hid (w.heap.size ≤ w4.heap.size) := by have h1 := hb4.size; have h2 := hbel.size; simp at h1; show _ ≤ _; omega
    have HG4 : Hid _ := hg4
    have HB4 : Hid _ := hb4
    clear hg4 hb4 tb
    go_wp2_with fail
    refine (appendEntry w.heap.size _ k (rows (cp es G) k) (cpr (es k) (wr.heap.size + 1)) _ own4.out (by omega) sz4.out).mono ?_
    rintro e w5 ⟨v', rfl, hown', hgrow⟩
    have R := sep_step hown hbel hkeys HG4.out HB4.out hown' hgrow
    have R' : Hid _ := R
    clear R hown' hgrow hown g0 g1 g2 g3 g4 g5 t1 t2 t3 t4 t5 hbel hkeys hrun own4 sz4 HG4 HB4 mk OKK
    go_wp2
    go_roundw
    case rel => exact ⟨k + 1, upd G k (wr.heap.size + 1), by omega, by go_num, R'.out⟩
    case measure => simp [intOf]; omega
  have hkn : n = k := by omega
  subst hkn
  clear hk hlt
  obtain ⟨g, cap, rfl, hg, hgl⟩ := hown.form (by omega)
  have hlf := leaf_of_owns hown
  obtain ⟨hc1, hc2⟩ : n ≤ cap ∧ cap ≤ maxLen := by
    rcases hown.2 with ⟨h0, _⟩ | ⟨g', cap', cur, hv, _, _, h1, h2, _⟩
    · cases h0
    · cases hv; exact ⟨h1, h2⟩
  have hkb := keys_byt hkeys hok
  have hin : Ins wr b off n es := fun i hi j u hj => (hbel.cell (p := ⟨b, off + i * 6 + j, none⟩) hbw).trans (h i hi j u hj)
  have hokw : ∀ i, i < n → Ok wr (es i) := fun i hi => (hok i hi).same (below_cells hbel)
  have KL : Hid (∀ i, i < n → G i < wr.heap.size) := fun i hi => (Array.getElem?_eq_some_iff.1 (hkeys i hi).1).1
  clear hown hkeys
  obtain ⟨m, p, E1, E2⟩ : ∃ m p : Nat, Hid (n = m + 1) ∧ Hid (m = p + 1) := ⟨n - 1, n - 2, by show n = _; omega, by show n - 1 = _; omega⟩
  have m1 : 1 ≤ m := by have := E2.out; omega
  have m2 : m + 1 ≤ n := by have := E1.out; omega
  have p1 : p < n := by have := E1.out; have := E2.out; omega
  have q1 : ((n - m : Nat) : Int) = (n : Int) - m := by omega
  have qq : (m : Int) + ((n : Int) - (m : Int)) = (n : Int) := by omega
  have sp1 : (cp es G p).kn ≤ 1048576 := (HS.out.2 p p1).1
  go_wp2_with fail
  refine (zz1 g n m p cap (cp es G p) _ E1.out E2.out hs1 hc1 hc2 (hlf p p1) hgl sp1 (Nat.le_succ _) (by show (es p).kn + 1 ≤ maxLen; have : (es p).kn ≤ 1048576 := sp1; unfold maxLen; omega) (by intro h0; cases h0) (hkb p p1)).mono ?_
  rintro e w2 ⟨gb, cb, rfl, hsep, hb1⟩
  have kc := below_cells hb1
  have hbel' : Below w.heap.size w w2 := hbel.trans (hb1.mono hbel.size)
  have hlf' : Leaf w2 g 0 n (cp es G) := hlf.same kc
  have hkb' : ∀ i, i < n → Byt w2 (cp es G i).ka (cp es G i).kn (es i).k := fun i hi => (hkb i hi).same kc
  have hin' : Ins w2 b off n es := fun i hi j u hj => kc _ _ (hin i hi j u hj)
  have hokw' : ∀ i, i < n → Ok w2 (es i) := fun i hi => (hokw i hi).same kc
  obtain ⟨X, HX⟩ : ∃ X : Nat, Hid (X = wr.heap.size) := ⟨wr.heap.size, rfl⟩
  have gX : g < X := by have := HX.out; omega
  have wX : w.heap.size ≤ X := by have := hbel.size; have := HX.out; omega
  have kX : Hid (∀ i, i < n → G i < X) := fun i hi => by rw [HX.out]; exact KL.out i hi
  rw [← HX.out] at hsep
  clear hbel hlf hkb hin hokw hgl hb1 kc HX KL
  have hbel := hbel'
  have hlf := hlf'
  have hkb := hkb'
  have hin := hin'
  have hokw := hokw'
  clear hbel' hlf' hkb' hin' hokw'
  have HSEP : Hid _ := hsep
  obtain ⟨bb, gbX⟩ := sepb (hokw p p1).k.len hsep
  obtain ⟨bl, BL⟩ : ∃ bl : List Int, Hid (bl = (es p).k ++ [0]) := ⟨(es p).k ++ [0], rfl⟩
  have PT : Hid (Parts n m es bl) := by rw [BL.out]; exact parts_last hasc E1.out E2.out (hnn m (by omega))
  have BB : Hid (Byt w2 (some ⟨gb, 0, none⟩) ((cp es G p).kn + 1) bl) := by rw [BL.out]; exact bb
  have bm : (cp es G p).kn + 1 ≤ maxLen := by unfold maxLen; omega
  clear hasc bb hsep
  go_wp2
  go_loopw [15] (fun i wx => ∃ k z : Nat, k ≤ m ∧ i = .int .i64 k ∧ wx = w2.drewN z) (fun i _ => n - (intOf i).toNat)
  case atStart => exact ⟨0, 0, Nat.zero_le _, rfl, rfl⟩
  case round =>
  obtain ⟨k, z, hk, rfl, rfl⟩ := hrel
  by_cases hlt : k < m
  · have ent := hlf k (by omega)
    have kb : Hid _ := hkb k (by omega)
    have s1 : (cp es G k).kn ≤ 1048576 := (HS.out.2 k (by omega)).1
    have lo : Hid _ := PT.out.lo k hlt
    go_wp2_with fail
    refine (entryOf g 0 m cap k (cp es G k) _ hlt (by omega) (by exact ent)).mono ?_
    rintro e w' ⟨rfl, q2, rfl⟩
    go_wp2_with fail
    refine (lessb _ _ _ _ _ _ (es k).k bl _ (by unfold maxLen; omega) bm (by exact kb.out.drewN _) (by exact BB.out.drewN _)).mono ?_
    rintro e w' ⟨rfl, q3, rfl⟩
    rw [lo.out]
    clear ent kb s1 lo
    go_wp2
    go_roundw
    case rel => exact ⟨k + 1, _, by omega, by go_num, rfl⟩
    case measure => simp [intOf]; omega
  go_wp2
  clear hk hlt
  go_loopw [22] (fun i wx => ∃ k z : Nat, k ≤ n - m ∧ i = .int .i64 k ∧ wx = w2.drewN z) (fun i _ => n - (intOf i).toNat)
  case atStart => exact ⟨0, z, Nat.zero_le _, rfl, rfl⟩
  case round =>
  obtain ⟨k, z, hk, rfl, rfl⟩ := hrel
  by_cases hlt : k < n - m
  · have ent : EntAt w2 g (m * 10 + k * 10) (cp es G (m + k)) := by rw [show m * 10 + k * 10 = 0 + (m + k) * 10 from by omega]; exact hlf (m + k) (by omega)
    have kb : Hid _ := hkb (m + k) (by omega)
    have s1 : (cp es G (m + k)).kn ≤ 1048576 := (HS.out.2 (m + k) (by omega)).1
    have lo : Hid _ := PT.out.hi (m + k) (by omega) (by omega)
    go_wp2_with fail
    refine (entryOf g (m * 10) (n - m) (cap - m) k (cp es G (m + k)) _ hlt (by omega) (by exact ent)).mono ?_
    rintro e w' ⟨rfl, q2, rfl⟩
    go_wp2_with fail
    refine (lessb _ _ _ _ _ _ (es (m + k)).k bl _ (by unfold maxLen; omega) bm (by exact kb.out.drewN _) (by exact BB.out.drewN _)).mono ?_
    rintro e w' ⟨rfl, q3, rfl⟩
    rw [lo.out]
    clear ent kb s1 lo
    go_wp2
    go_roundw
    case rel => exact ⟨k + 1, _, by omega, by go_num, rfl⟩
    case measure => simp [intOf]; omega
  go_wp2
  clear hk hlt
  go_loopw [29] (fun i wx => ∃ (k : Nat) (xs : List Int), k ≤ (cp es G p).kn + 1 ∧ i = .int .i64 k ∧ wx.ownsRow X 5 1 (.slice (some ⟨gb, 0, none⟩) ((cp es G p).kn + 1) cb) ((cp es G p).kn + 1) (xs.map (Value.int .u8)) ∧ Below X w2 wx) (fun i _ => (cp es G p).kn + 1 - (intOf i).toNat)
  case atStart => exact ⟨0, (es p).k ++ [0], Nat.zero_le _, rfl, sep_start HSEP.out, below_drawn (Below.refl _ _) _⟩
  case round =>
  obtain ⟨k, xs, hk, rfl, hown, hb5⟩ := hrel
  by_cases hlt : k < (cp es G p).kn + 1
  · have hxl : xs.length = (cp es G p).kn + 1 := by have := hown.1; simpa using this
    have c0 : wr.cell? ⟨gb, k, none⟩ = some (.int .u8 (xs.getD k 0)) := by rw [hown.cellAt k (by omega)]; simp [List.getD, hxl, hlt]
    have c1 : wr.frozen? ⟨gb, k, none⟩ = false := hown.frozenAt k
    go_wp2
    go_roundw
    case rel => exact ⟨k + 1, xs.set k _, by omega, by go_num, sep_round hown _, hb5.setCell gbX _⟩
    case measure => simp [intOf]; omega
  have hbel' : Below w.heap.size w wr := hbel.trans (hb5.mono wX)
  have hlf' : Leaf wr g 0 n (cp es G) := leaf_below hlf hb5 gX
  have hkb' : ∀ i, i < n → Byt wr (cp es G i).ka (cp es G i).kn (es i).k := fun i hi => byt_below (hkb i hi) hb5 (kX.out i hi)
  have hin' : Ins wr b off n es := fun i hi j u hj => (hb5.cell (p := ⟨b, off + i * 6 + j, none⟩) (by show b < X; omega)).trans (hin i hi j u hj)
  have hokw' : ∀ i, i < n → Ok wr (es i) := fun i hi => (hok i hi).same (below_cells hbel')
  go_wp2
  clear hbel hlf hkb hin hokw hb5 hown hk hlt kX gX HSEP
  have hbel := hbel'
  have hlf := hlf'
  have hkb := hkb'
  have hin := hin'
  have hokw := hokw'
  clear hbel' hlf' hkb' hin' hokw'
  obtain ⟨w3, W3⟩ : ∃ w3, Hid (wr = w3) := ⟨wr, rfl⟩
  rw [W3.out] at hbel hlf hkb hin hokw
  go_loopw [30] (fun i wx => ∃ k z : Nat, k ≤ n ∧ i = .int .i64 k ∧ wx = w3.drewN z) (fun i _ => n - (intOf i).toNat)
  case atStart => exact ⟨0, 0, Nat.zero_le _, rfl, W3.out⟩
  case round =>
  obtain ⟨k, z, hk, rfl, rfl⟩ := hrel
  by_cases hlt : k < n
  · have kb : Hid _ := hkb k hlt
    have okk : Hid _ := (hokw k hlt).k
    have s1 : (cp es G k).kn ≤ 1048576 := (HS.out.2 k hlt).1
    have g0 : w3.cell? ⟨b, off + k * 6, none⟩ = some (.slice (es k).ka (es k).kn (es k).kc) := hin k hlt 0 _ rfl
    by_cases hkm : k < m
    · have ent := hlf k hlt
      go_wp2_with fail
      refine (entryOf g 0 m cap k (cp es G k) _ hkm (by omega) (by exact ent)).mono ?_
      rintro e w' ⟨rfl, q2, rfl⟩
      go_wp2_with fail
      refine (eqb _ _ _ _ _ _ (es k).k (es k).k _ (by unfold maxLen; omega) (by exact kb.out.drewN _) (by exact okk.out.drewN _)).mono ?_
      rintro e w' ⟨rfl, q3, rfl⟩
      rw [refl_bool]
      clear ent kb s1 okk g0
      go_wp2
      go_roundw
      case rel => exact ⟨k + 1, _, by omega, by go_num, rfl⟩
      case measure => simp [intOf]; omega
    · have ent : EntAt w3 g (m * 10 + (k - m) * 10) (cp es G k) := by rw [show m * 10 + (k - m) * 10 = 0 + k * 10 from by omega]; exact hlf k hlt
      have q5 : (k : Int) - (m : Int) = ((k - m : Nat) : Int) := by omega
      have Q5 : Hid _ := q5
      clear q5
      go_wp2_with fail
      rw [Q5.out]
      refine (entryOf g (m * 10) (n - m) (cap - m) (k - m) (cp es G k) _ (by omega) (by omega) (by exact ent)).mono ?_
      rintro e w' ⟨rfl, q2, rfl⟩
      go_wp2_with fail
      refine (eqb _ _ _ _ _ _ (es k).k (es k).k _ (by unfold maxLen; omega) (by exact kb.out.drewN _) (by exact okk.out.drewN _)).mono ?_
      rintro e w' ⟨rfl, q3, rfl⟩
      rw [refl_bool]
      clear ent kb s1 okk g0
      go_wp2
      go_roundw
      case rel => exact ⟨k + 1, _, by omega, by go_num, rfl⟩
      case measure => simp [intOf]; omega
  go_wp2
  go_ret
  exact ⟨rfl, below_drawn hbel _⟩
end Go.Proofs.Qxb6631276a
