import Derived.Test.YbulkcqeiTimes
namespace Go.Proofs.Ybulkcqei.Fl
open Ieee

/-- The word of T * 2 ^ q (a zero is +0). -/
def fw (T q : Int) : Nat := if T = 0 then 0 else double.nearest (decide (T < 0)) T.natAbs q

theorem log2_small {N : Nat} (h0 : 0 < N) (h : N < 9007199254740992) : N.log2 ≤ 52 := by
  have := (Nat.log2_lt (n := N) (k := 53) (by omega)).2 (by omega)
  omega

theorem fw_rep (T q : Int) (h : T.natAbs < 9007199254740992) (q1 : -1000 ≤ q) (q2 : q ≤ 900) : Rep (double.read (fw T q)) (decide (T < 0)) T.natAbs q := by
  unfold fw
  by_cases h0 : T = 0
  · rw [if_pos h0, h0]
    exact rep_word0 false q
  · rw [if_neg h0]
    have := log2_small (N := T.natAbs) (by omega) h
    exact rep_exact _ _ _ (by omega) h (by omega) (by omega)

theorem sg_abs (T : Int) : sg (decide (T < 0)) T.natAbs = T := by
  unfold sg
  by_cases hs : T < 0
  · simp [hs]; omega
  · simp [hs]; omega

theorem xor_sign (T S : Int) (h1 : T ≠ 0) (h2 : S ≠ 0) : (decide (T < 0) ^^ decide (S < 0)) = decide (T * S < 0) := by
  by_cases a : T < 0
  · by_cases b : S < 0
    · have := Int.mul_pos_of_neg_of_neg a b
      simp [a, b]; omega
    · have := Int.mul_neg_of_neg_of_pos a (show 0 < S by omega)
      simp [a, b, this]
  · by_cases b : S < 0
    · have := Int.mul_neg_of_pos_of_neg (show 0 < T by omega) b
      simp [a, b, this]
    · have := Int.mul_pos (show 0 < T by omega) (show 0 < S by omega)
      simp [a, b]; omega

theorem mul_fw (T S q r : Int) (h : T.natAbs < 9007199254740992) (k : S.natAbs < 9007199254740992) (q1 : -1000 ≤ q) (q2 : q ≤ 900) (r1 : -1000 ≤ r) (r2 : r ≤ 900) (h0 : T * S ≠ 0) :
    double.mul (fw T q) (fw S r) = some (fw (T * S) (q + r)) := by
  have hT : T ≠ 0 := by rintro rfl; simp at h0
  have hS : S ≠ 0 := by rintro rfl; simp at h0
  obtain ⟨p, hp, rp⟩ := product_rep (fw_rep T q h q1 q2) (fw_rep S r k r1 r2)
  rw [xor_sign T S hT hS, ← Int.natAbs_mul] at rp
  unfold Format.mul
  rw [hp, Option.map_some, write_rep rp (by omega)]
  unfold fw
  rw [if_neg h0]

theorem mul_fw_zero (T S q r : Int) (h : T.natAbs < 9007199254740992) (k : S.natAbs < 9007199254740992) (q1 : -1000 ≤ q) (q2 : q ≤ 900) (r1 : -1000 ≤ r) (r2 : r ≤ 900) (h0 : T * S = 0) :
    double.mul (fw T q) (fw S r) = some (double.word (decide (T < 0) ^^ decide (S < 0)) 0) := by
  obtain ⟨p, hp, rp⟩ := product_rep (fw_rep T q h q1 q2) (fw_rep S r k r1 r2)
  rw [← Int.natAbs_mul, h0] at rp
  unfold Format.mul
  rw [hp, Option.map_some, write_rep_zero rp]

theorem add_fw (T S q : Int) (h : T.natAbs < 9007199254740992) (k : S.natAbs < 9007199254740992) (q1 : -1000 ≤ q) (q2 : q ≤ 900) :
    double.add (fw T q) (fw S q) = some (fw (T + S) q) := by
  unfold Format.add
  by_cases h0 : T + S = 0
  · rw [write_sum_zero (fw_rep T q h q1 q2) (fw_rep S q k q1 q2) (by rw [sg_abs, sg_abs, h0])]
    have hs : (decide (T < 0) && decide (S < 0)) = false := by
      by_cases a : T < 0
      · have : ¬ S < 0 := by omega
        simp [a, this]
      · simp [a]
    rw [hs]
    unfold fw
    rw [if_pos h0]
    rfl
  · rw [write_sum (fw_rep T q h q1 q2) (fw_rep S q k q1 q2) (T + S) (by rw [sg_abs, sg_abs]) h0]
    unfold fw
    rw [if_neg h0]

theorem add_zeros (s : Bool) : double.add 0 (double.word s 0) = some 0 := by
  exact write_sum_zero (rep_word0 false 0) (rep_word0 s 0) (by cases s <;> rfl)

theorem neg_nearest (s : Bool) (N : Nat) (q : Int) (h0 : 0 < N) (h : N < 9007199254740992) (q1 : -1000 ≤ q) (q2 : q ≤ 900) : (double.nearest s N q) ^^^ 9223372036854775808 = double.nearest (!s) N q := by
  have := log2_small h0 h
  obtain ⟨e1, hL, b1, b2⟩ := nearest_exact s N q h0 h (by omega) (by omega)
  obtain ⟨e2, _⟩ := nearest_exact (!s) N q h0 h (by omega) (by omega)
  rw [e1, e2, neg_word _ _ (by omega)]

/-- The product of two such words, less itself rounded (it is exact): nothing. -/
theorem fma_fw (T S q r : Int) (h : T.natAbs < 9007199254740992) (k : S.natAbs < 9007199254740992) (q1 : -500 ≤ q) (q2 : q ≤ 400) (r1 : -500 ≤ r) (r2 : r ≤ 400) (hTS : (T * S).natAbs < 9007199254740992) (h0 : T * S ≠ 0) :
    double.fma (fw T q) (fw S r) (fw (T * S) (q + r) ^^^ 9223372036854775808) = some 0 := by
  have hT : T ≠ 0 := by rintro rfl; simp at h0
  have hS : S ≠ 0 := by rintro rfl; simp at h0
  obtain ⟨p, hp, rp⟩ := product_rep (fw_rep T q h (by omega) (by omega)) (fw_rep S r k (by omega) (by omega))
  rw [xor_sign T S hT hS, ← Int.natAbs_mul] at rp
  have e : fw (T * S) (q + r) ^^^ 9223372036854775808 = double.nearest (!decide (T * S < 0)) (T * S).natAbs (q + r) := by
    unfold fw
    rw [if_neg h0, neg_nearest _ _ _ (by omega) hTS (by omega) (by omega)]
  have hl := log2_small (N := (T * S).natAbs) (by omega) hTS
  have r3 := rep_exact (!decide (T * S < 0)) (T * S).natAbs (q + r) (by omega) hTS (by omega) (by omega)
  unfold Format.fma
  rw [hp, e]
  show (Datum.sum p _).map double.write = _
  rw [write_sum_zero rp r3 (by cases decide (T * S < 0) <;> simp only [sg, Bool.not_true, Bool.not_false, if_true, Bool.false_eq_true, if_false] <;> omega)]
  cases decide (T * S < 0) <;> rfl

theorem fma_zero (S r : Int) (hS : 0 < S) (k : S.natAbs < 9007199254740992) (r1 : -500 ≤ r) (r2 : r ≤ 400) : double.fma 0 (fw S r) (0 ^^^ 9223372036854775808) = some 0 := by
  obtain ⟨p, hp, rp⟩ := product_rep (rep_word0 false 0) (fw_rep S r k (by omega) (by omega))
  rw [show decide (S < 0) = false from by simp; omega, Nat.zero_mul] at rp
  have hp' : (double.read 0).product (double.read (fw S r)) = some p := hp
  unfold Format.fma
  rw [hp']
  exact write_sum_zero rp (rep_word0 true (0 + r)) rfl

theorem order_fw (T q : Int) (h : T.natAbs < 9007199254740992) (q1 : -1000 ≤ q) (q2 : q ≤ 900) : double.order (fw T q) (fw T q) = some .eq := by
  unfold Format.order
  rw [order_rep (fw_rep T q h q1 q2) (fw_rep T q h q1 q2), Int.compare_eq_eq.2 rfl]

theorem ofInt_fw (n : Int) : floatOfInt .f64 n = fw n 0 := by
  unfold fw
  by_cases h : n = 0
  · subst h; rfl
  · rw [if_neg h]; rfl
end Go.Proofs.Ybulkcqei.Fl

namespace Go.Proofs.Ybulkcqei
open Go.RowKit
set_option linter.unusedVariables false

theorem Ldexp_fw (T q ex q' : Int) (w : World) (h : T.natAbs < 9007199254740992) (q1 : -900 ≤ q) (q2 : q ≤ 900) (q3 : -900 ≤ q') (q4 : q' ≤ 900) (hq : q' = q + ex) :
    Calls Yba.prog 8 #[.float .f64 (Fl.fw T q), .int .i64 ex] w fun r w' => r = .returned (.float .f64 (Fl.fw T q')) ∧ w' = w := by
  by_cases h0 : T = 0
  · subst h0
    exact Ldexp_is 0 0 ex w fun w => ldexp_zero 0 ex w (by decide)
  · have hl := Fl.log2_small (N := T.natAbs) (by omega) h
    obtain ⟨e1, hL, b1, b2⟩ := Fl.nearest_exact (decide (T < 0)) T.natAbs q (by omega) h (by omega) (by omega)
    obtain ⟨e2, _⟩ := Fl.nearest_exact (decide (T < 0)) T.natAbs q' (by omega) h (by omega) (by omega)
    unfold Fl.fw
    rw [if_neg h0, if_neg h0, e1, e2]
    exact Ldexp_word _ _ _ _ ex w (by omega) (by omega) b1 b2 (by omega)
end Go.Proofs.Ybulkcqei
