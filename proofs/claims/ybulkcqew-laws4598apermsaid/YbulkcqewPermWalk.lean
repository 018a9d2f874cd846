import Derived.Test.YbulkcqewPerm
namespace Go.Proofs.Ybulkcqew
open Go.RowKit
set_option linter.unusedVariables false

set_option maxRecDepth 100000 in
set_option maxHeartbeats 4000000 in
theorem perm_walk (L : Nat) (a1 : Option Addr) (n cap : Nat) (z : Nat → Nat) (w : World) (h0 : L ≤ 65535) (hl : n ≤ 300) (r : BytesAt w a1 n z) :
    Calls Yba.prog 4 #[.int .u16 (L : Int), .slice a1 n cap] w fun e w' => e = .returned (.bool true) ∧ Below w.heap.size w w' := by
  obtain ⟨N, hN⟩ : ∃ N, L + n = N := ⟨_, rfl⟩
  have mk3 := run_make_row' (P := Yba.prog) 45 3 (.int .i64 0) 8 Yba.underlying45 info3 rfl .i64 .i64 n (by omega) (by omega)
  have mk4 := run_make_row' (P := Yba.prog) 25 4 (.bool false) 1 Yba.underlying25 info4 rfl .i64 .i64 n (by omega) (by omega)
  go_enter Yba.func4, Yba.ntmps4
  go_wp2_with fail
  refine (newInserts5 L N (by omega) w).mono ?_
  rintro e w1 ⟨p, bm, rfl, hI, hB, hp, hbm⟩
  go_wp2_with fail
  go_loopw [8] (fun i wr => ∃ k : Nat, k ≤ n ∧ i = .int .i64 k ∧ Ins wr p bm ((L : Int) + (k : Int)) L 0 (fun _ => false) N 0 ∧ Below w.heap.size w wr) (fun i _ => n - (intOf i).toNat)
  case atStart => exact ⟨0, by omega, rfl, by simpa using hI, hB⟩
  case round =>
  clear hI hB
  obtain ⟨k, hk, rfl, hI, hB⟩ := hrel
  by_cases hlt : k < n
  · go_wp2_with fail
    refine (take9 p bm _ _ _ _ _ _ _ hI (by omega) (by omega)).mono ?_
    rintro e w2 ⟨rfl, rfl⟩
    have hI2 := hI.set0 ((L : Int) + (k : Int) + 1)
    have hB2 := hB.setCell (p := ⟨p, 0, none⟩) hp (.int .i64 ((L : Int) + (k : Int) + 1))
    have e1 : (L : Int) + ((k + 1 : Nat) : Int) = (L : Int) + (k : Int) + 1 := by omega
    go_wp2
    go_roundw
    case rel => exact ⟨k + 1, by omega, by go_num, by rw [e1]; exact hI2, hB2⟩
    case measure => simp [intOf]; omega
  obtain rfl : n = k := by omega
  clear hlt hk
  obtain ⟨nx, hnx⟩ : ∃ nx, (L : Int) + (n : Int) = nx := ⟨_, rfl⟩
  rw [hnx] at hI
  clear hnx
  go_wp2_with fail
  obtain ⟨po, hpo⟩ : ∃ po, wr.heap.size = po := ⟨_, rfl⟩
  have hI3 : Ins (wr.alloc (.cells (madeCells #[.int .i64 0] n) 3)) p bm nx L 0 (fun _ => false) N 0 := hI.of_blocks (Below.heap_alloc _ _ _ hI.pt) (Below.heap_alloc _ _ _ hI.hm.lt)
  have R3 : (wr.alloc (.cells (madeCells #[.int .i64 0] n) 3)).rowIs po 3 n (fun _ => .int .i64 0) := hpo ▸ World.rowIs_made wr (.int .i64 0) n 3
  have hB3 := hB.alloc hB.size (.cells (madeCells #[.int .i64 0] n) 3)
  have n1 : po ≠ p := by have := hI.pt; omega
  have n2 : po ≠ bm := by have := hI.hm.lt; omega
  have n3 : w.heap.size ≤ po := by have := hB.size; omega
  clear hI hB mk3
  generalize wr.alloc (.cells (madeCells #[.int .i64 0] n) 3) = w3 at hI3 R3 hB3 ⊢
  rw [hpo]
  clear hpo wr
  go_loopw [10] (fun i wr => ∃ j : Nat, j ≤ n ∧ i = .int .i64 j ∧ Ins wr p bm nx L 0 (fun _ => false) N 0 ∧ wr.rowIs po 3 n (fun x => .int .i64 (if x < j then (x : Int) else 0)) ∧ Below w.heap.size w wr) (fun i _ => n - (intOf i).toNat)
  case atStart => exact ⟨0, by omega, rfl, hI3, R3.congr (fun i _ => by simp), hB3⟩
  case round =>
  clear hI3 R3 hB3
  obtain ⟨j, hj, rfl, hI, R, hB⟩ := hrel
  by_cases hlt : j < n
  · have fz := R.frozen j
    have cc := R.cell (i := j) hlt
    have g1 : (j : Int) < (n : Int) := by omega
    go_wp2
    go_roundw
    case rel =>
      refine ⟨j + 1, by omega, by go_num, hI.of_blocks (Below.heap_setCell _ _ _ _ (Ne.symm n1)) (Below.heap_setCell _ _ _ _ (Ne.symm n2)), (R.set j (.int .i64 (j : Int))).congr ?_, hB.setCell n3 _⟩
      intro i _
      by_cases e : i = j
      · subst e
        simp
      · have : i < j + 1 ↔ i < j := by omega
        simp [e, this]
    case measure => simp [intOf]; omega
  obtain rfl : n = j := by omega
  clear hlt hj
  have R0 : wr.rowIs po 3 n (fun x => .int .i64 (((fun x => x) x : Nat) : Int)) := R.congr (fun i hi => by simp [hi])
  clear R
  go_wp2_with fail
  go_loopw [11] (fun v wr => ∃ (j : Int) (O : Nat → Nat), v = .int .i64 j ∧ -1 ≤ j ∧ j < n ∧ PermF O n ∧ Ins wr p bm nx L 0 (fun _ => false) N 0 ∧ wr.rowIs po 3 n (fun x => .int .i64 ((O x : Nat) : Int)) ∧ Below w.heap.size w wr) (fun v _ => (intOf v).toNat)
  case atStart => exact ⟨_, _, rfl, by omega, by omega, PermF.id n, hI, R0, hB⟩
  case round =>
  clear hI R0 hB
  obtain ⟨j0, O, rfl, hj1, hj2, hO, hI, R, hB⟩ := hrel
  by_cases hlt : 0 < j0
  · obtain ⟨i, rfl⟩ : ∃ i : Nat, j0 = (i : Int) := ⟨j0.toNat, by omega⟩
    have hi : i < n := by omega
    obtain ⟨bb, off, rfl, hbw, hcell⟩ := r (by omega)
    obtain ⟨ca0, hz⟩ := hcell i hi
    have ca := (hB.cell (p := ⟨bb, off + i, none⟩) hbw).trans ca0
    clear hcell ca0
    generalize z i = zk at hz ca
    obtain ⟨q, hq⟩ : ∃ q, zk % (i + 1) = q := ⟨_, rfl⟩
    have hq1 : q < n := by
      have := Nat.mod_lt zk (show 0 < i + 1 by omega)
      omega
    have hq2 : (zk : Int).tmod ((i : Int) + 1) = (q : Int) := by
      rw [Int.tmod_eq_emod_of_nonneg (by omega), ← hq]
      simp
    have g1 : (i : Int) < (n : Int) := by omega
    have g2 : (q : Int) < (n : Int) := by omega
    have g3 : ((i : Int) + 1 == 0) = false := by
      have : (i : Int) + 1 ≠ 0 := by omega
      simpa using this
    clear hq
    have fz1 := R.frozen i
    have fz2 := R.frozen q
    have c1 := R.cell hi
    have c2 := R.cell hq1
    obtain ⟨x1, hx1⟩ : ∃ x, O i = x := ⟨_, rfl⟩
    obtain ⟨x2, hx2⟩ : ∃ x, O q = x := ⟨_, rfl⟩
    rw [hx1] at c1
    rw [hx2] at c2
    have HX : Hid (O i = x1 ∧ O q = x2) := ⟨hx1, hx2⟩
    clear hx1 hx2
    go_upto_region 22 with fail
    have R1 := R.set i (.int .i64 (x2 : Int))
    have hI1 := hI.of_blocks (w' := wr.setCell ⟨po, i, none⟩ (.int .i64 (x2 : Int))) (Below.heap_setCell _ _ _ _ (Ne.symm n1)) (Below.heap_setCell _ _ _ _ (Ne.symm n2))
    have hB1 := hB.setCell (p := ⟨po, i, none⟩) n3 (.int .i64 (x2 : Int))
    generalize wr.setCell ⟨po, i, none⟩ (.int .i64 (x2 : Int)) = w5 at R1 hI1 hB1 ⊢
    clear c1 c2 fz1 fz2 ca
    have fz := R1.frozen q
    obtain ⟨y, c3⟩ : ∃ y, w5.cell? ⟨po, q, none⟩ = some y := ⟨_, R1.cell hq1⟩
    go_wp2
    go_roundw
    case rel =>
      refine ⟨(i : Int) - 1, _, by go_num, by omega, by omega, hO.swap hi hq1, hI1.of_blocks (Below.heap_setCell _ _ _ _ (Ne.symm n1)) (Below.heap_setCell _ _ _ _ (Ne.symm n2)), (R1.set q (.int .i64 (x1 : Int))).congr ?_, hB1.setCell n3 _⟩
      obtain ⟨e1, e2⟩ := HX.out
      intro x _
      show (if x = q then _ else if x = i then _ else _) = Value.int .i64 ((O (swp i q x) : Nat) : Int)
      unfold swp
      by_cases a : x = i
      · subst a
        by_cases b : x = q
        · subst b
          simp [e1]
        · simp [b, e2]
      · by_cases b : x = q
        · subst b
          simp [a, e1]
        · simp [a, b]
    case measure => simp [intOf]; omega
  go_wp2_with fail
  clear hlt hj1 hj2
  obtain ⟨pd, hpd⟩ : ∃ pd, wr.heap.size = pd := ⟨_, rfl⟩
  have hI3 : Ins (wr.alloc (.cells (madeCells #[.bool false] n) 4)) p bm nx L 0 (fun _ => false) N 0 := hI.of_blocks (Below.heap_alloc _ _ _ hI.pt) (Below.heap_alloc _ _ _ hI.hm.lt)
  have R3 : (wr.alloc (.cells (madeCells #[.bool false] n) 4)).rowIs pd 4 n (fun _ => .bool false) := hpd ▸ World.rowIs_made wr (.bool false) n 4
  have Q3 := R.alloc (.cells (madeCells #[.bool false] n) 4)
  have hB3 := hB.alloc hB.size (.cells (madeCells #[.bool false] n) 4)
  have m1 : pd ≠ p := by have := hI.pt; omega
  have m2 : pd ≠ bm := by have := hI.hm.lt; omega
  have m3 : w.heap.size ≤ pd := by have := hB.size; omega
  have m4 : pd ≠ po := by have := R.lt; omega
  clear hI hB mk4 R
  generalize wr.alloc (.cells (madeCells #[.bool false] n) 4) = w6 at hI3 R3 hB3 Q3 ⊢
  rw [hpd]
  clear hpd wr
  go_loopw [15] (fun i wr => ∃ (k b bk c : Nat) (D S : Nat → Bool), k ≤ n ∧ i = .int .i64 k ∧ c ≤ k ∧ L + b = bk ∧ Pm D b n L S ∧ (∀ x, D x = true ↔ ∃ i, i < k ∧ O i = x) ∧ Ins wr p bm nx bk 0 S N c ∧ wr.rowIs po 3 n (fun x => .int .i64 ((O x : Nat) : Int)) ∧ wr.rowIs pd 4 n (fun x => .bool (D x)) ∧ Below w.heap.size w wr) (fun i _ => n - (intOf i).toNat)
  case atStart => exact ⟨0, 0, L, 0, _, _, by omega, rfl, by omega, by omega, Pm.start n L, fun x => by simp, hI3, Q3, R3, hB3⟩
  case round =>
  clear hI3 R3 hB3 Q3
  obtain ⟨k, b, bk, c, D, S, hk, rfl, hc, hbk, hP, hD, hI, Q, R, hB⟩ := hrel
  by_cases hlt : k < n
  · obtain ⟨x, hx⟩ : ∃ x, O k = x := ⟨_, rfl⟩
    have hxn : x < n := hx ▸ hO.lt k hlt
    have hDx : D x = false := by
      cases h : D x
      · rfl
      · obtain ⟨i, hi, e⟩ := (hD x).1 h
        have := hO.inj i k (by omega) hlt (e.trans hx.symm)
        omega
    have hbx : b < n := by
      by_cases a : x < b
      · rw [hP.low x a] at hDx
        cases hDx
      · omega
    obtain ⟨key, hkey⟩ : ∃ key, L + x = key := ⟨_, rfl⟩
    have hkey2 : (L : Int) + (x : Int) = (key : Int) := by omega
    have c1 := Q.cell hlt
    rw [hx] at c1
    have hD2 : ∀ y, upd D x true y = true ↔ ∃ i, i < k + 1 ∧ O i = y := by
      intro y
      unfold upd
      by_cases e : y = x
      · subst e
        simp
        exact ⟨k, by omega, hx⟩
      · simp only [e, if_false, hD y]
        refine ⟨fun ⟨i, a, b⟩ => ⟨i, by omega, b⟩, fun ⟨i, a, b⟩ => ⟨i, ?_, b⟩⟩
        by_cases f : i = k
        · subst f
          exact absurd (b.symm.trans hx) e
        · omega
    have HD : Hid (∀ y, upd D x true y = true ↔ ∃ i, i < k + 1 ∧ O i = y) := hD2
    have HX : Hid (O k = x) := hx
    clear hD2 hD hx
    have g1 : (k : Int) < (n : Int) := by omega
    have g2 : (x : Int) < (n : Int) := by omega
    go_wp2_with fail
    refine (commit6 p bm key bk N c nx S _ hI (by omega) (by omega) (by omega) (by omega) (fun j h => by have := hP.below h; omega)).mono ?_
    rintro e w7 ⟨rfl, o7, hleft⟩
    obtain ⟨b2, bk2, c2, S2, hbk2, hc2, hP2, hI2⟩ : ∃ b2 bk2 c2 S2, L + b2 = bk2 ∧ c2 ≤ k + 1 ∧ Pm (upd D x true) b2 n L S2 ∧ Ins w7 p bm nx ((bk2 : Nat) : Int) 0 S2 N c2 := by
      rcases hleft with ⟨hne, h⟩ | ⟨he, b', h1, h2, h3, h4, h⟩
      · refine ⟨b, bk, c + 1, _, hbk, by omega, ?_, h⟩
        subst hkey
        exact hP.far hxn hDx (by omega)
      · subst hbk
        obtain rfl : x = b := by omega
        refine ⟨b' - L, b', c, _, by omega, by omega, ?_, h⟩
        exact hP.near hxn h1 (by omega) h3 h4
    have Q7 := Q.of_block (o7.block po n1 n2)
    have R7 := R.of_block (o7.block pd m1 m2)
    have hB7 := hB.trans (o7.below hp hbm)
    clear hleft o7 hI hP Q R hB hDx hkey hkey2 hbx hbk hc
    clear c1
    have c1 := Q7.cell hlt
    rw [HX.out] at c1
    have fz := R7.frozen x
    have c3 := R7.cell hxn
    go_wp2_with fail
    have R8 : (w7.setCell ⟨pd, x, none⟩ (.bool true)).rowIs pd 4 n (fun y => .bool (upd D x true y)) := (R7.set x (.bool true)).congr (fun y _ => by unfold upd; split <;> rfl)
    have Q8 : (w7.setCell ⟨pd, x, none⟩ (.bool true)).rowIs po 3 n (fun x => .int .i64 ((O x : Nat) : Int)) := Q7.of_block (Below.heap_setCell _ _ _ _ (Ne.symm m4))
    have hI8 : Ins (w7.setCell ⟨pd, x, none⟩ (.bool true)) p bm nx bk2 0 S2 N c2 := hI2.of_blocks (Below.heap_setCell _ _ _ _ (Ne.symm m1)) (Below.heap_setCell _ _ _ _ (Ne.symm m2))
    have hB8 := hB7.setCell (p := ⟨pd, x, none⟩) m3 (.bool true)
    generalize w7.setCell ⟨pd, x, none⟩ (.bool true) = w8 at R8 Q8 hI8 hB8 ⊢
    clear R7 Q7 hI2 hB7 c1 c3 fz w7
    go_loopw [16] (fun v wr => ∃ j : Nat, j ≤ b2 ∧ v = .int .i64 j ∧ wr = w8) (fun v _ => b2 - (intOf v).toNat)
    case atStart => exact ⟨0, by omega, rfl, rfl⟩
    case round =>
    obtain ⟨j, hj, rfl, rfl⟩ := hrel
    have hb2 := hP2.le
    by_cases hjb : j < b2
    · have c1 := R8.cell (i := j) (by omega)
      rw [hP2.low j hjb] at c1
      have g3 : (j : Int) < (n : Int) := by omega
      go_wp2
      go_roundw
      case rel => exact ⟨j + 1, by omega, by go_num, trivial⟩
      case measure => simp [intOf]; omega
    obtain rfl : b2 = j := by omega
    have hbk3 : (L : Int) + (b2 : Int) = (bk2 : Int) := by omega
    have NXT : Hid (∃ (k' b bk c : Nat) (D S : Nat → Bool), k' ≤ n ∧ Value.int .i64 ((k : Int) + 1) = .int .i64 k' ∧ c ≤ k' ∧ L + b = bk ∧ Pm D b n L S ∧ (∀ x, D x = true ↔ ∃ i, i < k' ∧ O i = x) ∧ Ins wr p bm nx bk 0 S N c ∧ wr.rowIs po 3 n (fun x => .int .i64 ((O x : Nat) : Int)) ∧ wr.rowIs pd 4 n (fun x => .bool (D x)) ∧ Below w.heap.size w wr) :=
      ⟨k + 1, b2, bk2, c2, _, _, by omega, by go_num, by omega, hbk2, hP2, HD.out, hI8, Q8, R8, hB8⟩
    clear hjb hj
    by_cases hbn : b2 < n
    · have c1 := R8.cell (i := b2) hbn
      rw [hP2.top] at c1
      have g3 : (b2 : Int) < (n : Int) := by omega
      go_wp2_with fail
      refine (committed7 p bm nx bk2 0 S2 N c2 _ hI8).mono ?_
      rintro e w' ⟨rfl, rfl⟩
      go_wp2
      go_roundw
      case rel => exact NXT.out
      case measure => simp [intOf]; omega
    · have g3 : ¬ (b2 : Int) < (n : Int) := by omega
      go_wp2_with fail
      refine (committed7 p bm nx bk2 0 S2 N c2 _ hI8).mono ?_
      rintro e w' ⟨rfl, rfl⟩
      go_wp2
      go_roundw
      case rel => exact NXT.out
      case measure => simp [intOf]; omega
  · obtain rfl : n = k := by omega
    obtain ⟨rfl, hS0⟩ := hP.full (fun x hx => (hD x).2 (hO.sur x hx))
    obtain rfl : bk = N := by omega
    have hNi : (L : Int) + (b : Int) = (bk : Int) := by omega
    have hc0 := cnt_none hS0 bk
    have c4 := hI.c4
    clear hlt hk hD hP hS0 hc
    go_wp2_with fail
    refine (committed7 p bm nx bk 0 S bk c _ hI).mono ?_
    rintro e w' ⟨rfl, rfl⟩
    go_wp2_with (at_len; refine wpList_len _ rfl _ rfl bm c S bk rfl hI.hm ?_; rw [hc0])
    go_ret
    exact ⟨rfl, hB⟩

theorem perm_long (m : Int) (a1 : Option Addr) (len cap : Nat) (w : World) (hl : ¬ len ≤ 300) :
    Calls Yba.prog 4 #[.int .u16 m, .slice a1 len cap] w fun e w' => e = .returned (.bool true) ∧ Below w.heap.size w w' := by
  have g : (300 : Int) < (len : Int) := by omega
  go_enter Yba.func4, Yba.ntmps4
  go_wp2
  go_ret
  exact ⟨rfl, Below.refl _ _⟩
end Go.Proofs.Ybulkcqew
