import Derived.Test.YbulkcqeiSum
namespace Go.Proofs.Ybulkcqei
open Go.RowKit
set_option linter.unusedVariables false

/-- What 'times' is asked at the law's power: all exact. -/
theorem exact_times (a A c : Int) (a0 : 0 ≤ a) (a1 : a ≤ 32767) (A0 : 68719476736 ≤ A) (A1 : A < 137438953472) (c0 : -32768 ≤ c) (c1 : c ≤ 32767) :
    ∃ hi g lo : Nat, Ieee.double.mul (Fl.fw a 0) (Fl.fw A (-37)) = some hi ∧ Ieee.double.fma (Fl.fw a 0) (Fl.fw A (-37)) (hi ^^^ 9223372036854775808) = some 0 ∧ Ieee.double.mul (Fl.fw a 0) (Fl.fw c (-37)) = some g ∧
      Ieee.double.add 0 g = some lo ∧ Ieee.double.add hi lo = some (Fl.fw (a * (A + c)) (-37)) := by
  have b1 : 0 ≤ a * A := Int.mul_nonneg a0 (by omega)
  have b2 : a * A ≤ 32767 * 137438953472 := by
    have x := Int.mul_le_mul_of_nonneg_left (show A ≤ 137438953472 by omega) a0
    have y := Int.mul_le_mul_of_nonneg_right a1 (show (0 : Int) ≤ 137438953472 by decide)
    omega
  have b3 : a * c ≤ 32767 * 32767 := by
    have x := Int.mul_le_mul_of_nonneg_left c1 a0
    have y := Int.mul_le_mul_of_nonneg_right a1 (show (0 : Int) ≤ 32767 by decide)
    omega
  have b4 : -(32767 * 32768) ≤ a * c := by
    have x := Int.mul_le_mul_of_nonneg_left c0 a0
    have y := Int.mul_le_mul_of_nonneg_right a1 (show (0 : Int) ≤ 32768 by decide)
    omega
  have na : a.natAbs < 9007199254740992 := by omega
  have nA : A.natAbs < 9007199254740992 := by omega
  have nc : c.natAbs < 9007199254740992 := by omega
  rcases (by omega : a = 0 ∨ 0 < a) with h | h
  · subst h
    refine ⟨0, _, 0, ?_, ?_, Fl.mul_fw_zero 0 c 0 (-37) na nc (by decide) (by decide) (by decide) (by decide) (by simp), Fl.add_zeros _, ?_⟩
    · rw [Fl.mul_fw_zero 0 A 0 (-37) na nA (by decide) (by decide) (by decide) (by decide) (by simp), show decide (A < 0) = false from by simp; omega]
      rfl
    · exact Fl.fma_zero A (-37) (by omega) nA (by decide) (by decide)
    · rw [Int.zero_mul]
      exact Fl.add_zeros false
  · have hA : a * A ≠ 0 := Int.mul_ne_zero (by omega) (by omega)
    have m1 := Fl.mul_fw a A 0 (-37) na nA (by decide) (by decide) (by decide) (by decide) hA
    have m2 := Fl.fma_fw a A 0 (-37) na nA (by decide) (by decide) (by decide) (by decide) (by omega) hA
    have m5 : Ieee.double.add (Fl.fw (a * A) (0 + -37)) (Fl.fw (a * c) (-37)) = some (Fl.fw (a * (A + c)) (-37)) := by
      have := Fl.add_fw (a * A) (a * c) (-37) (by omega) (by omega) (by decide) (by decide)
      rw [← Int.mul_add] at this
      exact this
    by_cases hc : c = 0
    · subst hc
      refine ⟨_, _, 0, m1, m2, Fl.mul_fw_zero a 0 0 (-37) na nc (by decide) (by decide) (by decide) (by decide) (by simp), Fl.add_zeros _, ?_⟩
      rw [Int.mul_zero] at m5
      exact m5
    · have hac : a * c ≠ 0 := Int.mul_ne_zero (by omega) hc
      refine ⟨_, _, Fl.fw (a * c) (-37), m1, m2, Fl.mul_fw a c 0 (-37) na nc (by decide) (by decide) (by decide) (by decide) hac, ?_, m5⟩
      have := Fl.add_fw 0 (a * c) (-37) (by decide) (by omega) (by decide) (by decide)
      rw [Int.zero_add] at this
      exact this

set_option maxHeartbeats 1000000 in
theorem exact_walk (a b c e ai bm ex N : Int) (hi g lo : Nat) (w : World) (c0 : -32768 ≤ c) (c1 : c ≤ 32767) (a3 : -32768 ≤ e) (a4 : e ≤ 32767)
    (hai : bits BinOp.and IntKind.u16 a 32767 = ai) (ai0 : 0 ≤ ai) (ai1 : ai ≤ 32767) (hbm : bits BinOp.and IntKind.u64 b 68719476735 = bm) (bm0 : 0 ≤ bm) (bm1 : bm < 68719476736)
    (hex : e.tmod 200 = ex) (b3 : -199 ≤ ex) (b4 : ex ≤ 199) (hN : ai * (68719476736 + bm + c) = N) (N0 : 0 ≤ N) (N1 : N < 9007199254740992)
    (m1 : Ieee.double.mul (Fl.fw ai 0) (Fl.fw (68719476736 + bm) (-37)) = some hi) (m2 : Ieee.double.fma (Fl.fw ai 0) (Fl.fw (68719476736 + bm) (-37)) (hi ^^^ 9223372036854775808) = some 0) (m3 : Ieee.double.mul (Fl.fw ai 0) (Fl.fw c (-37)) = some g)
    (m4 : Ieee.double.add 0 g = some lo) (m5 : Ieee.double.add hi lo = some (Fl.fw N (-37))) :
    Calls Yba.prog 4 #[.int .u16 a, .int .u64 b, .int .i16 c, .int .i16 e] w fun e w' => e = .returned (.bool true) ∧ Grown w w' := by
  have hof := Fl.ofInt_fw
  have M : Hid (Ieee.double.mul (Fl.fw ai 0) (Fl.fw (68719476736 + bm) (-37)) = some hi ∧ Ieee.double.fma (Fl.fw ai 0) (Fl.fw (68719476736 + bm) (-37)) (hi ^^^ 9223372036854775808) = some 0 ∧ Ieee.double.mul (Fl.fw ai 0) (Fl.fw c (-37)) = some g ∧
      Ieee.double.add 0 g = some lo ∧ Ieee.double.add hi lo = some (Fl.fw N (-37))) := ⟨m1, m2, m3, m4, m5⟩
  clear m1 m2 m3 m4 m5
  go_enter Yba.func4, Yba.ntmps4
  go_wp2_with fail
  refine (Ldexp_fw (68719476736 + bm) 0 (-37) (-37) _ (by omega) (by decide) (by decide) (by decide) (by decide) rfl).mono ?_
  rintro e w1 ⟨rfl, rfl⟩
  go_wp2_with fail
  refine (Ldexp_fw c 0 (-37) (-37) _ (by omega) (by decide) (by decide) (by decide) (by decide) rfl).mono ?_
  rintro e w1 ⟨rfl, rfl⟩
  go_wp2_with fail
  obtain ⟨m1, m2, m3, m4, m5⟩ := M.out
  refine (times_any w1.heap.size (Fl.fw ai 0) (Fl.fw (68719476736 + bm) (-37)) (Fl.fw c (-37)) hi 0 g lo (Fl.fw N (-37)) (Fl.fw N (ex - 37)) ex _ (by simp [go_sem]) (by simp [go_sem]) (by simp [go_sem]) m1 m2 m3 m4 m5 (fun w => Ldexp_fw N (-37) ex (ex - 37) w (by omega) (by decide) (by decide) (by omega) (by omega) (by omega))).mono ?_
  clear m1 m2 m3 m4 m5 M
  rintro e w' ⟨rfl, n, rfl⟩
  have o1 : (FloatKind.f64.format.order (Fl.fw (68719476736 + bm) (-37)) (Fl.fw (68719476736 + bm) (-37)) != some .eq) = false := by
    show (Ieee.double.order _ _ != _) = false
    rw [Fl.order_fw _ _ (by omega) (by decide) (by decide)]; rfl
  have o2 : (FloatKind.f64.format.order (Fl.fw c (-37)) (Fl.fw c (-37)) != some .eq) = false := by
    show (Ieee.double.order _ _ != _) = false
    rw [Fl.order_fw _ _ (by omega) (by decide) (by decide)]; rfl
  have o3 : (FloatKind.f64.format.order (Fl.fw N (ex - 37)) (Fl.fw N (ex - 37)) == some .eq) = true := by
    show (Ieee.double.order _ _ == _) = true
    rw [Fl.order_fw _ _ (by omega) (by omega) (by omega)]; rfl
  go_wp2_with fail
  refine (Ldexp_fw N 0 (ex - 37) (ex - 37) _ (by omega) (by decide) (by decide) (by omega) (by omega) (by omega)).mono ?_
  rintro e w' ⟨rfl, rfl⟩
  go_wp2
  go_ret
  exact ⟨rfl, (Grown.refl w1).alloc _ _⟩

theorem exact_law (a b c e : Int) (w : World) (u1 : 0 ≤ a ∧ a ≤ 65535) (u2 : 0 ≤ b ∧ b ≤ 18446744073709551615) (u3 : -32768 ≤ c ∧ c ≤ 32767) (u4 : -32768 ≤ e ∧ e ≤ 32767) :
    Calls Yba.prog 4 #[.int .u16 a, .int .u64 b, .int .i16 c, .int .i16 e] w fun e w' => e = .returned (.bool true) ∧ Grown w w' := by
  have t := tmod_bd e 200 (by decide)
  have h1 : bits BinOp.and IntKind.u16 a 32767 = a % 32768 := by
    have h := bits_mask .u16 16 (by decide) (fun n p q => by rw [IntKind.wrap_u16]; omega) 15 (by decide) a u1.1 (by omega)
    rw [show ((2 : Int) ^ 15 - 1) = 32767 from rfl, show ((2 : Int) ^ 15) = 32768 from rfl] at h
    exact h
  have h2 : bits BinOp.and IntKind.u64 b 68719476735 = b % 68719476736 := by
    have h := bits_mask .u64 64 (by decide) (fun n p q => by rw [IntKind.wrap_u64]; omega) 36 (by decide) b u2.1 (by omega)
    rw [show ((2 : Int) ^ 36 - 1) = 68719476735 from rfl, show ((2 : Int) ^ 36) = 68719476736 from rfl] at h
    exact h
  obtain ⟨ai, hai⟩ : ∃ ai, a % 32768 = ai := ⟨_, rfl⟩
  obtain ⟨bm, hbm⟩ : ∃ bm, b % 68719476736 = bm := ⟨_, rfl⟩
  have ai0 : 0 ≤ ai := by omega
  have ai1 : ai ≤ 32767 := by omega
  have bm0 : 0 ≤ bm := by omega
  have bm1 : bm < 68719476736 := by omega
  obtain ⟨hi, g, lo, m1, m2, m3, m4, m5⟩ := exact_times ai (68719476736 + bm) c ai0 ai1 (by omega) (by omega) u3.1 u3.2
  have n0 : 0 ≤ ai * (68719476736 + bm + c) := Int.mul_nonneg ai0 (by omega)
  have n1 : ai * (68719476736 + bm + c) < 9007199254740992 := by
    have x := Int.mul_le_mul_of_nonneg_left (show 68719476736 + bm + c ≤ 137438986239 by omega) ai0
    have y := Int.mul_le_mul_of_nonneg_right ai1 (show (0 : Int) ≤ 137438986239 by decide)
    omega
  exact exact_walk a b c e ai bm (e.tmod 200) _ hi g lo w u3.1 u3.2 u4.1 u4.2 (h1.trans hai) ai0 ai1 (h2.trans hbm) bm0 bm1 rfl (by omega) (by omega) rfl n0 n1 m1 m2 m3 m4 m5
end Go.Proofs.Ybulkcqei
