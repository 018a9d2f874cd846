import Derived.Test.YbulkcqeiLd
import Derived.Deep.QuietTactic
import Derived.BigQuiet
namespace Go.Proofs.Ybulkcqei
open Go.RowKit
set_option linter.unusedVariables false

theorem fma10 (x y z r : Nat) (h : FloatKind.f64.format.fma x y z = some r) (w : World) : (callFunc 10 #[.float .f64 x, .float .f64 y, .float .f64 z]).run Yba.prog w = .ok (.value (.float .f64 r)) w := by
  have hc := @run_callFunc_extern Yba.prog 10 _ Extern.MathFMA.fma Yba.func10 (by kernel_rfl) (by kernel_rfl) (by kernel_rfl) (by kernel_rfl) #[.float .f64 x, .float .f64 y, .float .f64 z] w
  have hf : Extern.MathFMA.fma #[.float .f64 x, .float .f64 y, .float .f64 z] = pure (.float .f64 r) := by
    show (match FloatKind.f64.format.fma x y z with
      | some r => pure (Value.float .f64 r)
      | none => do
        let (a, b) := if Extern.MathFMA.isNaN x then (x, y) else if Extern.MathFMA.isNaN y then (y, z) else (z, z)
        pure (Value.float .f64 (← choose (.nanBits .f64 a b)))) = _
    rw [h]
  rw [hc, hf]
  rfl

set_option maxHeartbeats 400000 in
theorem times_any (p x h l hi f g lo sm r : Nat) (ex : Int) (w : World) (c0 : w.cell? ⟨p, 0, none⟩ = some (.float .f64 h)) (c1 : w.cell? ⟨p, 1, none⟩ = some (.float .f64 l)) (c2 : w.cell? ⟨p, 2, none⟩ = some (.int .i64 ex))
    (m1 : Ieee.double.mul x h = some hi) (m2 : Ieee.double.fma x h (hi ^^^ 9223372036854775808) = some f) (m3 : Ieee.double.mul x l = some g) (m4 : Ieee.double.add f g = some lo) (m5 : Ieee.double.add hi lo = some sm)
    (hL : ∀ w, Calls Yba.prog 8 #[.float .f64 sm, .int .i64 ex] w fun e w' => e = .returned (.float .f64 r) ∧ w' = w) :
    Calls Yba.prog 7 #[.pointer (some ⟨p, 0, none⟩), .float .f64 x] w fun e w' => e = .returned (.float .f64 r) ∧ ∃ n, w' = w.drewN n := by
  obtain ⟨nh, hnh⟩ : ∃ nh, Op.negFloat .f64 hi = nh := ⟨_, rfl⟩
  have e1 := fun w => run_float_arith (P := Yba.prog) w .mul 24 .f64 x h hi m1
  have e2 : ∀ w, (callFunc 10 #[.float .f64 x, .float .f64 h, .float .f64 nh]).run Yba.prog w = .ok (.value (.float .f64 f)) w := fma10 x h nh f (by rw [← hnh]; exact m2)
  have e3 := fun w => run_float_arith (P := Yba.prog) w .mul 24 .f64 x l g m3
  have e4 := fun w => run_float_arith (P := Yba.prog) w .add 24 .f64 f g lo m4
  have e5 := fun w => run_float_arith (P := Yba.prog) w .add 24 .f64 hi lo sm m5
  have e6 : Op.unary .neg (.float .f64 hi) = pure (.float .f64 nh) := by rw [← hnh]; rfl
  clear hnh
  have HL : Hid _ := hL
  clear hL m1 m2 m3 m4 m5
  go_enter Yba.func7, Yba.ntmps7
  go_wp2
  go_quiet (fail)
  go_wp2_with fail
  refine (HL.out _).mono ?_
  rintro e w' ⟨rfl, rfl⟩
  go_wp2
  go_ret
  exact ⟨rfl, _, rfl⟩

set_option maxHeartbeats 1000000 in
theorem rounded_walk (xm xe hm e xp ex : Int) (x h hi lo r : Nat) (w : World) (a1 : -32768 ≤ xe) (a2 : xe ≤ 32767) (a3 : -32768 ≤ e) (a4 : e ≤ 32767)
    (hxp : xe.tmod 900 = xp) (b1 : -899 ≤ xp) (b2 : xp ≤ 899) (hex : e.tmod 100 = ex) (b3 : -99 ≤ ex) (b4 : ex ≤ 99)
    (hX : bits BinOp.or IntKind.u64 ((xp + 1023) * 4503599627370496) (bits BinOp.and IntKind.u64 xm 4503599627370495) = (x : Int))
    (hH : bits BinOp.or IntKind.u64 4602678819172646912 (bits BinOp.and IntKind.u64 hm 4503599627370495) = (h : Int))
    (m1 : Ieee.double.mul x h = some hi) (m2 : Ieee.double.fma x h (hi ^^^ 9223372036854775808) = some lo) (m3 : Ieee.double.mul x 0 = some 0) (m4 : Ieee.double.add lo 0 = some lo) (m5 : Ieee.double.add hi lo = some hi)
    (hL : ∀ w, Calls Yba.prog 8 #[.float .f64 hi, .int .i64 ex] w fun e w' => e = .returned (.float .f64 r) ∧ w' = w)
    (o1 : (FloatKind.f64.format.order h h != some .eq) = false) (o2 : (FloatKind.f64.format.order r r == some .eq) = true) :
    Calls Yba.prog 3 #[.int .u64 xm, .int .i16 xe, .int .u64 hm, .int .i16 e] w fun e w' => e = .returned (.bool true) ∧ Grown w w' := by
  have h6 := fb6
  have e1 := fun w => run_float_arith (P := Yba.prog) w .mul 24 .f64 x h hi m1
  have o3 : (FloatKind.f64.format.order 0 0 != some .eq) = false := by decide
  have M : Hid (Ieee.double.mul x h = some hi ∧ Ieee.double.fma x h (hi ^^^ 9223372036854775808) = some lo ∧ Ieee.double.mul x 0 = some 0 ∧ Ieee.double.add lo 0 = some lo ∧ Ieee.double.add hi lo = some hi) := ⟨m1, m2, m3, m4, m5⟩
  have HL : Hid _ := hL
  clear hL m1 m2 m3 m4 m5
  go_enter Yba.func3, Yba.ntmps3
  go_wp2_with fail
  obtain ⟨m1, m2, m3, m4, m5⟩ := M.out
  refine (times_any w.heap.size x h 0 hi lo 0 lo hi r ex _ (by simp [go_sem]) (by simp [go_sem]) (by simp [go_sem]) m1 m2 m3 m4 m5 HL.out).mono ?_
  clear m1 m2 m3 m4 m5 M
  rintro e w' ⟨rfl, n, rfl⟩
  go_wp2_with fail
  refine (HL.out _).mono ?_
  rintro e w' ⟨rfl, rfl⟩
  go_wp2
  go_ret
  exact ⟨rfl, (Grown.refl w).alloc _ _⟩

/-- 'm & (2^52 - 1)'. -/
theorem and52 (m : Int) (h0 : 0 ≤ m) (h1 : m ≤ 18446744073709551615) : bits BinOp.and IntKind.u64 m 4503599627370495 = m % 4503599627370496 := by
  have h := bits_mask .u64 64 (by decide) (fun n a b => by rw [IntKind.wrap_u64]; omega) 52 (by decide) m h0 (by omega)
  rw [show ((2 : Int) ^ 52 - 1) = 4503599627370495 from rfl, show ((2 : Int) ^ 52) = 4503599627370496 from rfl] at h
  exact h
/-- 'E << 52 | f'. -/
theorem or52 (E f : Int) (h0 : 0 ≤ E) (h1 : E ≤ 2047) (h2 : 0 ≤ f) (h3 : f < 4503599627370496) : bits BinOp.or IntKind.u64 (E * 4503599627370496) f = E * 4503599627370496 + f := by
  refine bits_join .u64 64 (by decide) (fun n a b => by rw [IntKind.wrap_u64]; omega) 52 _ _ (by omega) ?_ (by omega) h2 (by omega) (by omega)
  rw [show ((2 : Int) ^ 52) = 4503599627370496 from rfl]
  omega

theorem tmod_bd (a n : Int) (hn : 0 < n) : -n < a.tmod n ∧ a.tmod n < n := by
  rcases Int.le_total 0 a with h | h
  · rw [Int.tmod_eq_emod_of_nonneg h]
    have := Int.emod_nonneg a (b := n) (by omega)
    have := Int.emod_lt_of_pos a hn
    omega
  · obtain ⟨c, rfl⟩ : ∃ c, a = -c := ⟨-a, by omega⟩
    rw [Int.neg_tmod, Int.tmod_eq_emod_of_nonneg (by omega)]
    have := Int.emod_nonneg c (b := n) (by omega)
    have := Int.emod_lt_of_pos c hn
    omega

theorem rounded_law (xm xe hm e : Int) (w : World) (u1 : 0 ≤ xm ∧ xm ≤ 18446744073709551615) (u2 : -32768 ≤ xe ∧ xe ≤ 32767) (u3 : 0 ≤ hm ∧ hm ≤ 18446744073709551615) (u4 : -32768 ≤ e ∧ e ≤ 32767) :
    Calls Yba.prog 3 #[.int .u64 xm, .int .i16 xe, .int .u64 hm, .int .i16 e] w fun e w' => e = .returned (.bool true) ∧ Grown w w' := by
  have t1 : -899 ≤ xe.tmod 900 ∧ xe.tmod 900 ≤ 899 := by have := tmod_bd xe 900 (by decide); omega
  have t2 : -99 ≤ e.tmod 100 ∧ e.tmod 100 ≤ 99 := by have := tmod_bd e 100 (by decide); omega
  obtain ⟨xp, hxp⟩ : ∃ xp, xe.tmod 900 = xp := ⟨_, rfl⟩
  obtain ⟨ex, hex⟩ : ∃ ex, e.tmod 100 = ex := ⟨_, rfl⟩
  rw [hxp] at t1
  rw [hex] at t2
  obtain ⟨fx, hfx⟩ : ∃ fx : Nat, xm % 4503599627370496 = (fx : Int) := ⟨(xm % 4503599627370496).toNat, by omega⟩
  obtain ⟨fh, hfh⟩ : ∃ fh : Nat, hm % 4503599627370496 = (fh : Int) := ⟨(hm % 4503599627370496).toNat, by omega⟩
  obtain ⟨E, hE⟩ : ∃ E : Nat, xp + 1022 = (E : Int) := ⟨(xp + 1022).toNat, by omega⟩
  have lx : fx < 4503599627370496 := by omega
  have lh : fh < 4503599627370496 := by omega
  have rx := Fl.read_word false E (4503599627370496 + fx) (by omega) (by omega) (by omega)
  have rh := Fl.read_word false 1021 (4503599627370496 + fh) (by omega) (by omega) (by omega)
  have rx' : Fl.Rep (Ieee.double.read (E * 4503599627370496 + (4503599627370496 + fx))) false (4503599627370496 + fx) (-1074 + (E : Int)) := by
    rw [show E * 4503599627370496 + (4503599627370496 + fx) = Ieee.double.word false (E * 4503599627370496 + (4503599627370496 + fx)) from rfl, rx]
    exact Fl.rep_self _ _ _
  have rh' : Fl.Rep (Ieee.double.read (1021 * 4503599627370496 + (4503599627370496 + fh))) false (4503599627370496 + fh) (-1074 + ((1021 : Nat) : Int)) := by
    rw [show 1021 * 4503599627370496 + (4503599627370496 + fh) = Ieee.double.word false (1021 * 4503599627370496 + (4503599627370496 + fh)) from rfl, rh]
    exact Fl.rep_self _ _ _
  obtain ⟨hi, lo, e', K, m1, m2, m3, m4, m5, hw, k1, k2, e1, e2⟩ := Fl.rounded _ _ _ _ _ _ rx' rh' (by omega) (by omega) (by omega) (by omega) (by omega) (by omega)
  obtain ⟨e'', he''⟩ : ∃ e'' : Nat, (e'' : Int) = e' + ex := ⟨(e' + ex).toNat, by omega⟩
  refine rounded_walk xm xe hm e xp ex _ _ hi lo (Ieee.double.word false (e'' * 4503599627370496 + K)) w u2.1 u2.2 u4.1 u4.2 hxp t1.1 t1.2 hex t2.1 t2.2 ?_ ?_ m1 m2 m3 m4 m5 (fun w => ?_) ?_ ?_
  · rw [and52 xm u1.1 u1.2, hfx, or52 (xp + 1023) fx (by omega) (by omega) (by omega) (by omega)]
    omega
  · rw [and52 hm u3.1 u3.2, hfh, show (4602678819172646912 : Int) = 1022 * 4503599627370496 from rfl, or52 1022 fh (by omega) (by omega) (by omega) (by omega)]
    omega
  · rw [hw]
    exact Ldexp_word false e' e'' K ex w (by omega) (by omega) k1 k2 he''
  · have := Fl.order_self false 1021 (4503599627370496 + fh) (by omega) (by omega) (by omega)
    rw [show Ieee.double.word false (1021 * 4503599627370496 + (4503599627370496 + fh)) = 1021 * 4503599627370496 + (4503599627370496 + fh) from rfl] at this
    show (Ieee.double.order _ _ != _) = false
    rw [this]; rfl
  · have := Fl.order_self false e'' K (by omega) k1 k2
    show (Ieee.double.order _ _ == _) = true
    rw [this]; rfl
end Go.Proofs.Ybulkcqei
