import Derived.Test.YbulkcqceBuild
namespace Go.Proofs.Ybulkcqce
open Go.RowKit
set_option linter.unusedVariables false

theorem Row.alloc {k : IntKind} {w : World} {a : Option Addr} {len : Nat} {z : Nat → Int} (h : Row k w a len z) (o : Obj) : Row k (w.alloc o) a len z := fun hl => by
  obtain ⟨b, off, e, hb, hc⟩ := h hl
  refine ⟨b, off, e, by simp; omega, fun i hi => ?_⟩
  exact (((Below.refl w.heap.size w).alloc (Nat.le_refl _) o).cell (p := ⟨b, off + i, none⟩) hb).trans (hc i hi)

def upto (h : Nat → Bool) : Nat → Bool | 0 => false | k + 1 => upto h k || h k

set_option maxHeartbeats 1000000 in
theorem model_any (w : World) (a0 a1 : Option Addr) (l0 l1 cp0 cp1 : Nat) (z0 z1 : Nat → Int) (r0 : Row .i64 w a0 l0 z0) (r1 : Row .u64 w a1 l1 z1) (hl0 : l0 ≤ 1024) (hl1 : l1 ≤ 1024)
    (b x0 x1 x2 : Int) (owned : Bool) (hb0 : 0 ≤ b) (hb1 : b ≤ 65535) (q0 : 0 ≤ x0 ∧ x0 ≤ 65535) (q1 : 0 ≤ x1 ∧ x1 ≤ 65535) (q2 : 0 ≤ x2 ∧ x2 ≤ 65535) :
    Calls Yba.prog 3 #[.slice a0 l0 cp0, .slice a1 l1 cp1, .int .u16 b, .agg #[.int .u16 x0, .int .u16 x1, .int .u16 x2], .bool owned] w fun e w' => e = .returned (.bool true) ∧ Below w.heap.size w w' := by
  go_enter Yba.func3, Yba.ntmps3
  go_wp2_with fail
  refine (build_any _ a0 a1 l0 l1 cp0 cp1 z0 z1 (r0.alloc _) (r1.alloc _) hl0 hl1).mono ?_
  rintro e w1 ⟨v, rfl, p, bc, bi, bh, n, C, I, rfl, hn, hn', hF, hB1⟩
  have HB1 : Hid (Below _ _ w1) := hB1
  have t0 : w1.cell? ⟨w.heap.size, 0, none⟩ = some (.int .u16 x0) := (hB1.cell (p := ⟨w.heap.size, 0, none⟩) (by simp)).trans (by simp [go_sem])
  have t1 : w1.cell? ⟨w.heap.size, 1, none⟩ = some (.int .u16 x1) := (hB1.cell (p := ⟨w.heap.size, 1, none⟩) (by simp)).trans (by simp [go_sem])
  have t2 : w1.cell? ⟨w.heap.size, 2, none⟩ = some (.int .u16 x2) := (hB1.cell (p := ⟨w.heap.size, 2, none⟩) (by simp)).trans (by simp [go_sem])
  obtain ⟨bn, hbn, lbn⟩ := nat_mod b n hb0 hn
  have c0 := hF.c0
  clear hB1 r0 r1
  go_wp2_with fail
  refine (bs_any w1 n x0 x1 x2 hn hn' q0 q1 q2).mono ?_
  rintro e w2 ⟨o0, o1, o2, l0', l1', l2', rfl, hB2⟩
  have hF2 := hF.below hB2
  have HB2 : Hid (Below _ _ w2) := hB2
  clear hB2 hF t0 t1 t2 q0 q1 q2 c0
  go_wp2_with fail
  refine (conf_any _ p bc bi bh n C I (hF2.alloc _) bn o0 o1 o2 owned hn' lbn l0' l1' l2').mono ?_
  rintro e w3 ⟨rfl, hB3⟩
  have hF3 := (hF2.alloc _).below hB3
  have hcb : ∀ k, k < 3 → w3.cell? ⟨w2.heap.size, k, none⟩ = some (.int .i64 (at3 o0 o1 o2 k)) := fun k hk => by
    refine (hB3.cell (p := ⟨w2.heap.size, k, none⟩) (by simp)).trans ?_
    rcases (by omega : k = 0 ∨ k = 1 ∨ k = 2) with rfl | rfl | rfl <;> simp [go_sem, at3]
  have hB : Below w.heap.size w w3 := by
    have h1 := HB1.out
    have h2 := HB2.out
    refine (((Below.refl w.heap.size w).alloc (Nat.le_refl _) _).trans (h1.mono (by simp))).trans ((h2.mono ?_).trans (((Below.refl _ _).alloc ?_ _).trans (hB3.mono ?_)))
    · have := h1.size; simp at this; omega
    · have := h1.size; have := h2.size; simp at *; omega
    · have := h1.size; have := h2.size; simp at *; omega
  have hz : w2.heap.size < w3.heap.size := by have := hB3.size; simp at this; omega
  clear hB3 HB1 HB2 hF2
  have HC : Hid ((hitB C I bn o0 || (hitB C I bn o1 || hitB C I bn o2)) = upto (fun j => hitB C I bn (at3 o0 o1 o2 j)) 3) := by
    show _ = _
    simp only [upto, at3, Bool.false_or, Bool.or_assoc]
  have hat : ∀ k, at3 o0 o1 o2 k < n := by intro k; unfold at3; split <;> assumption
  go_wp2
  go_loopw [16, 17, 18] (fun s i _ wr => ∃ k : Nat, k ≤ 3 ∧ i = .int .i64 k ∧ s = .bool (upto (fun j => hitB C I bn (at3 o0 o1 o2 j)) k) ∧ ∃ q, wr = w3.drewN q)
    (fun _ i _ _ => 3 - (intOf i).toNat)
  case atStart => exact ⟨0, by omega, rfl, rfl, 0, rfl⟩
  case round =>
    obtain ⟨k, hk, rfl, rfl, q, rfl⟩ := hrel
    by_cases hlt : k < 3
    · obtain ⟨o, ho⟩ : ∃ o, at3 o0 o1 o2 k = o := ⟨_, rfl⟩
      have hon : o < n := by rw [← ho]; exact hat k
      have cb := hcb k hlt
      rw [ho] at cb
      have c0 := hF3.c0
      have c1 := hF3.c1
      have k1 := hF3.cc hon
      have k2 := hF3.cc lbn
      have k3 := hF3.ci hon
      have k4 := hF3.ci lbn
      obtain ⟨x1, e1⟩ : ∃ x, C o = x := ⟨_, rfl⟩
      obtain ⟨x2, e2⟩ : ∃ x, C bn = x := ⟨_, rfl⟩
      obtain ⟨x3, e3⟩ : ∃ x, I o = x := ⟨_, rfl⟩
      obtain ⟨x4, e4⟩ : ∃ x, I bn = x := ⟨_, rfl⟩
      rw [e1] at k1
      rw [e2] at k2
      rw [e3] at k3
      rw [e4] at k4
      have HO : Hid (at3 o0 o1 o2 k = o) := ho
      have HE : Hid (C o = x1 ∧ C bn = x2 ∧ I o = x3 ∧ I bn = x4) := ⟨e1, e2, e3, e4⟩
      clear ho e1 e2 e3 e4 hat hcb
      obtain ⟨u, hu⟩ : ∃ u, upto (fun j => hitB C I bn (at3 o0 o1 o2 j)) k = u := ⟨_, rfl⟩
      have HU : Hid (upto (fun j => hitB C I bn (at3 o0 o1 o2 j)) k = u) := hu
      rw [hu]
      clear hu
      have g0 : (0 : Int) ≤ (o : Int) := by omega
      have g1 : (o : Int) < (n : Int) := by omega
      have g2 : (0 : Int) ≤ (bn : Int) := by omega
      have g3 : (bn : Int) < (n : Int) := by omega
      have NO : Hid (hitB C I bn o = false → ∀ q', ∃ k' : Nat, k' ≤ 3 ∧ Value.int .i64 ((k : Int) + 1) = .int .i64 k' ∧ Value.bool u = .bool (upto (fun j => hitB C I bn (at3 o0 o1 o2 j)) k') ∧ ∃ q, w3.drewN q' = w3.drewN q) := by
        intro hh q'
        refine ⟨k + 1, by omega, by go_num, ?_, q', rfl⟩
        rw [show upto (fun j => hitB C I bn (at3 o0 o1 o2 j)) (k + 1) = (upto (fun j => hitB C I bn (at3 o0 o1 o2 j)) k || hitB C I bn (at3 o0 o1 o2 k)) from rfl, HU.out, HO.out, hh, Bool.or_false]
      have YES : Hid (hitB C I bn o = true → ∀ q', ∃ k' : Nat, k' ≤ 3 ∧ Value.int .i64 ((k : Int) + 1) = .int .i64 k' ∧ Value.bool true = .bool (upto (fun j => hitB C I bn (at3 o0 o1 o2 j)) k') ∧ ∃ q, w3.drewN q' = w3.drewN q) := by
        intro hh q'
        refine ⟨k + 1, by omega, by go_num, ?_, q', rfl⟩
        rw [show upto (fun j => hitB C I bn (at3 o0 o1 o2 j)) (k + 1) = (upto (fun j => hitB C I bn (at3 o0 o1 o2 j)) k || hitB C I bn (at3 o0 o1 o2 k)) from rfl, HO.out, hh, Bool.or_true]
      by_cases e : (o : Int) = (bn : Int)
      · have t1 : ((o : Int) == (bn : Int)) = true := by simp [e]
        have HOB : Hid (o = bn) := by show o = bn; omega
        clear e
        go_wp2
        go_roundw
        case rel => exact NO.out (hit_same _ _ _ _ HOB.out) q
        case measure => simp [intOf]; omega
      · have t1 : ((o : Int) == (bn : Int)) = false := by simp [e]
        have HOB : Hid (o ≠ bn) := by show o ≠ bn; omega
        clear e
        by_cases e : x1 = x2
        · have t2 : (x1 != x2) = false := by simp [e]
          have HX : Hid (x1 = x2) := e
          clear e
          by_cases e : x3 = x4
          · have t3 : (x3 != x4) = false := by simp [e]
            have HY : Hid (x3 = x4) := e
            clear e
            go_wp2
            go_quiet (fail)
            go_wp2
            go_quiet (fail)
            go_wp2
            go_roundw
            case rel =>
              obtain ⟨e1, e2, e3, e4⟩ := HE.out
              exact YES.out (hit_yes C I bn o HOB.out (by rw [e1, e2]; exact HX.out) (by rw [e3, e4]; exact HY.out)) _
            case measure => simp [intOf]; omega
          · have t3 : (x3 != x4) = true := by simp [e]
            have HY : Hid (x3 ≠ x4) := e
            clear e
            go_wp2
            go_quiet (fail)
            go_wp2
            go_quiet (fail)
            go_wp2
            go_roundw
            case rel =>
              obtain ⟨e1, e2, e3, e4⟩ := HE.out
              exact NO.out (hit_no2 _ _ _ _ (by rw [e3, e4]; exact HY.out)) _
            case measure => simp [intOf]; omega
        · have t2 : (x1 != x2) = true := by simp [e]
          have HX : Hid (x1 ≠ x2) := e
          clear e
          go_wp2
          go_quiet (fail)
          go_wp2
          go_roundw
          case rel =>
            obtain ⟨e1, e2, e3, e4⟩ := HE.out
            exact NO.out (hit_no1 _ _ _ _ (by rw [e1, e2]; exact HX.out)) _
          case measure => simp [intOf]; omega
    · obtain rfl : k = 3 := by omega
      rw [← HC.out]
      cases owned
      · go_wp2
        go_ret
        exact ⟨by simp, below_drewN hB _⟩
      · go_wp2
        go_ret
        exact ⟨by simp, below_drewN hB _⟩
end Go.Proofs.Ybulkcqce
