import Derived.Test.Qxb6631276aWhole2
namespace Go.Proofs.Qxb6631276a
open Go.RowKit
set_option linter.unusedVariables false

set_option maxRecDepth 100000 in
set_option maxHeartbeats 4000000 in
theorem whole0 (b off n c : Nat) (kind : Int) (k1 : kind ≠ 1) (k2 : kind ≠ 2) (es : Nat → Rec) (w : World) (hn : n ≤ c) (hc : c ≤ maxLen) (h : Ins w b off n es) (hok : ∀ i, i < n → Ok w (es i)) (hbw : b < w.heap.size) :
    Calls Try.prog 3 #[.slice (some ⟨b, off, none⟩) n c, .int .i64 kind] w fun e w' => e = .returned (.bool true) ∧ Below w.heap.size w w' := by
  have hnm : n ≤ maxLen := by omega
  have hnm' := hnm
  unfold maxLen at hnm'
  have e1 : (kind == 1) = false := by simpa using k1
  have e2 : (kind == 2) = false := by simpa using k2
  go_enter Try.func3, Try.ntmps3
  go_wp2_with fail
  refine (zzb5 b off n c kind es _ hnm h).mono ?_
  rintro e w' ⟨⟨x, rfl⟩, rfl⟩
  cases x
  · go_wp2
    go_ret
    exact ⟨rfl, Below.refl _ _⟩
  go_wp2_with fail
  refine (within b off n c es _ hnm h).mono ?_
  rintro e w ⟨⟨x, rfl, hs⟩, rfl⟩
  cases x
  · go_wp2
    go_ret
    exact ⟨rfl, Below.refl _ _⟩
  have hs := hs rfl
  by_cases h2 : n < 2
  · go_wp2
    go_ret
    exact ⟨rfl, Below.refl _ _⟩
  have hs1 := hs.1
  have HS : Hid (Small n es) := hs
  clear hs
  go_wp2
  go_loopw [6, 7] (fun v i wr => ∃ k : Nat, k ≤ n ∧ i = .int .i64 k ∧ wr.ownsRow w.heap.size 48 10 v k (rows es k) ∧ Below w.heap.size w wr) (fun _ i _ => n - (intOf i).toNat)
  case atStart => exact ⟨0, Nat.zero_le _, rfl, World.ownsRow_nil _ _ _ _, Below.refl _ _⟩
  case round =>
    obtain ⟨k, hk, rfl, hown, hbel⟩ := hrel
    by_cases hlt : k < n
    · skip
      have gc : ∀ j u, (es k).icells[j]? = some u → wr.cell? ⟨b, off + k * 6 + j, none⟩ = some u := fun j u hj => (hbel.cell (p := ⟨b, off + k * 6 + j, none⟩) hbw).trans (h k hlt j u hj)
      have g0 : wr.cell? ⟨b, off + k * 6, none⟩ = some (.slice (es k).ka (es k).kn (es k).kc) := gc 0 _ rfl
      have g1 : wr.cell? ⟨b, off + k * 6 + 1, none⟩ = some (.int .u64 (es k).txn) := gc 1 _ rfl
      have g2 : wr.cell? ⟨b, off + k * 6 + 2, none⟩ = some (.bool (es k).del) := gc 2 _ rfl
      have g3 : wr.cell? ⟨b, off + k * 6 + 3, none⟩ = some (.slice (es k).va (es k).vn (es k).vc) := gc 3 _ rfl
      have g4 : wr.cell? ⟨b, off + k * 6 + 4, none⟩ = some (.int .u32 (es k).f) := gc 4 _ rfl
      have g5 : wr.cell? ⟨b, off + k * 6 + 5, none⟩ = some (.int .u32 (es k).s) := gc 5 _ rfl
      clear gc
      go_wp2_with fail
      refine (appendEntry w.heap.size _ k (rows es k) (es k) _ (hown.alloc _) (by omega) (by have := hbel.size; simp; omega)).mono ?_
      rintro e w1 ⟨v', rfl, hown', hgrow⟩
      have R := leaf_step hown hbel _ rfl hown' hgrow
      have R' : Hid _ := R
      clear R hown' hgrow hown g0 g1 g2 g3 g4 g5 hbel
      go_wp2
      go_roundw
      case rel => exact ⟨k + 1, by omega, by go_num, R'.out.1, R'.out.2⟩
      case measure => simp [intOf]; omega
    · have hkn : n = k := by omega
      subst hkn
      clear hk hlt
      obtain ⟨g, cap, rfl, hg, hgl⟩ := hown.form (by omega)
      have hlf := leaf_of_owns hown
      obtain ⟨hc1, hc2⟩ : n ≤ cap ∧ cap ≤ maxLen := by
        rcases hown.2 with ⟨h0, _⟩ | ⟨g', cap', cur, hv, _, _, h1, h2, _⟩
        · cases h0
        · cases hv; exact ⟨h1, h2⟩
      clear hown
      go_wp2_with fail
      refine (zz0 g n cap kind es _ k1 k2 (by omega) HS.out hc1 hc2 hlf).mono ?_
      rintro e w' ⟨m, dv, rfl, q, rfl⟩
      have DV : Hid _ := dv
      have m1 : 1 ≤ m := dv.one
      have m2 : m + 1 ≤ n := by have := dv.last; omega
      have q1 : ((n - m : Nat) : Int) = (n : Int) - m := by omega
      have hbel' : Below w.heap.size w (wr.drewN q) := below_drawn hbel _
      have hlf' : Leaf (wr.drewN q) g 0 n es := hlf
      have hgl' : g < (wr.drewN q).heap.size := hgl
      clear hbel hlf hgl dv
      generalize wr.drewN q = w2 at *
      go_wp2
      go_loopw [14, 15] (fun t i wr => ∃ k : Nat, k ≤ n ∧ i = .int .i64 k ∧ t = .int .i64 (acc es k) ∧ Below w.heap.size w wr ∧ Leaf wr g 0 n es ∧ g < wr.heap.size) (fun _ i _ => n - (intOf i).toNat)
      case atStart => exact ⟨0, Nat.zero_le _, rfl, rfl, hbel', hlf', hgl'⟩
      case round =>
      obtain ⟨k, hk, rfl, rfl, hbel, hlf, hgl⟩ := hrel
      obtain ⟨a1, a2⟩ := acc_bd HS.out k hk
      by_cases hlt : k < n
      · obtain ⟨s1, s2⟩ := HS.out.2 k hlt
        obtain ⟨z1, z2⟩ := (es k).sz_bd s1 s2
        have gc : ∀ j u, (es k).icells[j]? = some u → wr.cell? ⟨b, off + k * 6 + j, none⟩ = some u := fun j u hj => (hbel.cell (p := ⟨b, off + k * 6 + j, none⟩) hbw).trans (h k hlt j u hj)
        have g0 : wr.cell? ⟨b, off + k * 6, none⟩ = some (.slice (es k).ka (es k).kn (es k).kc) := gc 0 _ rfl
        have g1 : wr.cell? ⟨b, off + k * 6 + 1, none⟩ = some (.int .u64 (es k).txn) := gc 1 _ rfl
        have g2 : wr.cell? ⟨b, off + k * 6 + 2, none⟩ = some (.bool (es k).del) := gc 2 _ rfl
        have g3 : wr.cell? ⟨b, off + k * 6 + 3, none⟩ = some (.slice (es k).va (es k).vn (es k).vc) := gc 3 _ rfl
        have g4 : wr.cell? ⟨b, off + k * 6 + 4, none⟩ = some (.int .u32 (es k).f) := gc 4 _ rfl
        have g5 : wr.cell? ⟨b, off + k * 6 + 5, none⟩ = some (.int .u32 (es k).s) := gc 5 _ rfl
        clear gc
        go_wp2_with fail
        refine (entryBytes (es k) _ s1 s2).mono ?_
        rintro e w1 ⟨rfl, hb1⟩
        have R' : Hid (Below w.heap.size w w1 ∧ Leaf w1 g 0 n es ∧ g < w1.heap.size) := ⟨hbel.trans (hb1.mono hbel.size), hlf.same (below_cells hb1), Nat.lt_of_lt_of_le hgl hb1.size⟩
        clear hb1 hbel hlf hgl g0 g1 g2 g3 g4 g5
        go_wp2
        go_roundw
        case rel => exact ⟨k + 1, by omega, by go_num, rfl, R'.out⟩
        case measure => simp [intOf]; omega
      have hkn : n = k := by omega
      subst hkn
      clear hk hlt hbel' hlf' hgl'
      go_wp2
      go_loopw [17, 18] (fun t i wr => ∃ k : Nat, k ≤ m ∧ i = .int .i64 k ∧ t = .int .i64 (acc es k) ∧ Below w.heap.size w wr ∧ Leaf wr g 0 n es ∧ g < wr.heap.size) (fun _ i _ => n - (intOf i).toNat)
      case atStart => exact ⟨0, Nat.zero_le _, rfl, rfl, hbel, hlf, hgl⟩
      case round =>
      clear hbel hlf hgl
      obtain ⟨k, hk, rfl, rfl, hbel, hlf, hgl⟩ := hrel
      obtain ⟨b1, b2⟩ := acc_bd HS.out k (by omega)
      by_cases hlt : k < m
      · have hltn : k < n := by omega
        obtain ⟨s1, s2⟩ := HS.out.2 k hltn
        obtain ⟨z1, z2⟩ := (es k).sz_bd s1 s2
        have lo : k + 1 < m → acc es k + (es k).sz < acc es n / 2 := fun h3 => DV.out.below (k + 1) (by omega) h3
        have gc : ∀ j u, (es k).icells[j]? = some u → wr.cell? ⟨b, off + k * 6 + j, none⟩ = some u := fun j u hj => (hbel.cell (p := ⟨b, off + k * 6 + j, none⟩) hbw).trans (h k hltn j u hj)
        have g0 : wr.cell? ⟨b, off + k * 6, none⟩ = some (.slice (es k).ka (es k).kn (es k).kc) := gc 0 _ rfl
        have g1 : wr.cell? ⟨b, off + k * 6 + 1, none⟩ = some (.int .u64 (es k).txn) := gc 1 _ rfl
        have g2 : wr.cell? ⟨b, off + k * 6 + 2, none⟩ = some (.bool (es k).del) := gc 2 _ rfl
        have g3 : wr.cell? ⟨b, off + k * 6 + 3, none⟩ = some (.slice (es k).va (es k).vn (es k).vc) := gc 3 _ rfl
        have g4 : wr.cell? ⟨b, off + k * 6 + 4, none⟩ = some (.int .u32 (es k).f) := gc 4 _ rfl
        have g5 : wr.cell? ⟨b, off + k * 6 + 5, none⟩ = some (.int .u32 (es k).s) := gc 5 _ rfl
        clear gc
        by_cases h3 : k + 1 < m
        all_goals
          go_wp2_with fail
          refine (entryBytes (es k) _ s1 s2).mono ?_
          rintro e w1 ⟨rfl, hb1⟩
          have R' : Hid (Below w.heap.size w w1 ∧ Leaf w1 g 0 n es ∧ g < w1.heap.size) := ⟨hbel.trans (hb1.mono hbel.size), hlf.same (below_cells hb1), Nat.lt_of_lt_of_le hgl hb1.size⟩
          clear hb1 hbel hlf hgl g0 g1 g2 g3 g4 g5
          go_wp2
          go_roundw
          case rel => exact ⟨k + 1, by omega, by go_num, rfl, R'.out⟩
          case measure => simp [intOf]; omega
      have hkm : m = k := by omega
      subst hkm
      clear hk hlt
      have mn : m < n := by omega
      have ok := (hok m mn).same (below_cells hbel)
      have ok' : Hid _ := ok
      obtain ⟨s1, s2⟩ := HS.out.2 m mn
      have g0 : wr.cell? ⟨b, off + m * 6, none⟩ = some (.slice (es m).ka (es m).kn (es m).kc) := (hbel.cell (p := ⟨b, off + m * 6, none⟩) hbw).trans (h m mn 0 _ rfl)
      have rc : m < n - 1 → acc es n / 2 ≤ acc es m := DV.out.reach
      clear ok
      by_cases h4 : m < n - 1
      all_goals
      go_wp2_with fail
      refine (eqb _ _ _ _ _ _ (es m).k (es m).k _ (by unfold maxLen; omega) (by exact ok'.out.k) (by exact ok'.out.k)).mono ?_
      rintro e w' ⟨rfl, q', rfl⟩
      rw [refl_bool]
      clear ok' g0 s1 s2
      go_wp2
      go_loopw [19] (fun i wr => ∃ k : Nat, k ≤ n ∧ i = .int .i64 k ∧ Below w.heap.size w wr ∧ Leaf wr g 0 n es ∧ g < wr.heap.size) (fun i _ => n - (intOf i).toNat)
      case atStart => exact ⟨0, Nat.zero_le _, rfl, (below_drawn hbel _), hlf, hgl⟩
      case round =>
        obtain ⟨k, hk, rfl, hbel, hlf, hgl⟩ := hrel
        by_cases hlt : k < n
        · obtain ⟨s1, s2⟩ := HS.out.2 k hlt
          have ok := (hok k hlt).same (below_cells hbel)
          have ent := hlf k hlt
          have gc : ∀ j u, (es k).icells[j]? = some u → wr.cell? ⟨b, off + k * 6 + j, none⟩ = some u := fun j u hj => (hbel.cell (p := ⟨b, off + k * 6 + j, none⟩) hbw).trans (h k hlt j u hj)
          have g0 : wr.cell? ⟨b, off + k * 6, none⟩ = some (.slice (es k).ka (es k).kn (es k).kc) := gc 0 _ rfl
          have g1 : wr.cell? ⟨b, off + k * 6 + 1, none⟩ = some (.int .u64 (es k).txn) := gc 1 _ rfl
          have g2 : wr.cell? ⟨b, off + k * 6 + 2, none⟩ = some (.bool (es k).del) := gc 2 _ rfl
          have g3 : wr.cell? ⟨b, off + k * 6 + 3, none⟩ = some (.slice (es k).va (es k).vn (es k).vc) := gc 3 _ rfl
          have g4 : wr.cell? ⟨b, off + k * 6 + 4, none⟩ = some (.int .u32 (es k).f) := gc 4 _ rfl
          have g5 : wr.cell? ⟨b, off + k * 6 + 5, none⟩ = some (.int .u32 (es k).s) := gc 5 _ rfl
          clear gc
          by_cases hkm : k < m
          · go_wp2_with fail
            refine (sameEntry g 0 m cap k (es k) _ hkm (by omega) s1 s2 ent hgl ok.k ok.v).mono ?_
            rintro e w1 ⟨rfl, hb1⟩
            have R' : Hid (Below w.heap.size w w1 ∧ Leaf w1 g 0 n es ∧ g < w1.heap.size) := ⟨hbel.trans (hb1.mono hbel.size), hlf.same (below_cells hb1), Nat.lt_of_lt_of_le hgl hb1.size⟩
            clear hb1 hbel hlf hgl ok ent g0 g1 g2 g3 g4 g5
            go_wp2
            go_roundw
            case rel => exact ⟨k + 1, by omega, by go_num, R'.out⟩
            case measure => simp [intOf]; omega
          · have er := ent_right hlf hlt (show m ≤ k by omega)
            go_wp2_with fail
            rw [show ((k : Int) - (m : Nat)) = ((k - m : Nat) : Int) from by omega]
            refine (sameEntry g (m * 10) (n - m) (cap - m) (k - m) (es k) _ (by omega) (by omega) s1 s2 er hgl ok.k ok.v).mono ?_
            rintro e w1 ⟨rfl, hb1⟩
            have R' : Hid (Below w.heap.size w w1 ∧ Leaf w1 g 0 n es ∧ g < w1.heap.size) := ⟨hbel.trans (hb1.mono hbel.size), hlf.same (below_cells hb1), Nat.lt_of_lt_of_le hgl hb1.size⟩
            clear hb1 hbel hlf hgl ok ent er g0 g1 g2 g3 g4 g5
            go_wp2
            go_roundw
            case rel => exact ⟨k + 1, by omega, by go_num, R'.out⟩
            case measure => simp [intOf]; omega
        · go_wp2
          go_ret
          exact ⟨rfl, hbel⟩
end Go.Proofs.Qxb6631276a
