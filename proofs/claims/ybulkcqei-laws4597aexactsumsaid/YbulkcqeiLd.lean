import Derived.Test.YbulkcqeiFlW
import Derived.Test.YbulkcqeiRows
import Derived.WalkKit
import Derived.WalkSpells
import Derived.WalkLawsBesides
import Derived.Laws.BitsAllLaws
import Derived.Laws.FloatArith
namespace Go.Proofs.Ybulkcqei
open Go.RowKit
set_option linter.unusedVariables false

theorem fb6 (n : Int) (w : World) : (callFunc 6 #[.int .u64 n]).run Yba.prog w = .ok (.value (.float .f64 n.toNat)) w := by
  have h := @run_callFunc_extern Yba.prog 6 _ Extern.MathFloatBits.float64frombits Yba.func6 (by kernel_rfl) (by kernel_rfl) (by kernel_rfl) (by kernel_rfl) #[.int .u64 n] w
  rw [h]; rfl
theorem fb16 (b : Nat) (w : World) : (callFunc 16 #[.float .f64 b]).run Yba.prog w = .ok (.value (.int .u64 b)) w := by
  have h := @run_callFunc_extern Yba.prog 16 _ Extern.MathFloatBits.float64bits Yba.func16 (by kernel_rfl) (by kernel_rfl) (by kernel_rfl) (by kernel_rfl) #[.float .f64 b] w
  rw [h]; rfl

def absW (b : Nat) : Nat := (bits .andNot .u64 (b : Int) 9223372036854775808).toNat

set_option maxHeartbeats 400000 in
theorem abs_any (b : Nat) (w : World) : Calls Yba.prog 19 #[.float .f64 b] w fun e w' => e = .returned (.float .f64 (absW b)) ∧ w' = w := by
  have h6 := fb6
  have h16 := fb16
  go_enter Yba.func19, Yba.ntmps19
  go_wp2
  go_ret
  exact ⟨rfl, rfl⟩

set_option maxHeartbeats 400000 in
theorem isNaN_no (b : Nat) (w : World) (h : (FloatKind.f64.format.order b b != some .eq) = false) : Calls Yba.prog 14 #[.float .f64 b] w fun e w' => e = .returned (.bool false) ∧ w' = w := by
  go_enter Yba.func14, Yba.ntmps14
  go_wp2
  go_ret
  exact ⟨rfl, rfl⟩

set_option maxHeartbeats 400000 in
theorem isInf_no (b : Nat) (w : World) (h : (FloatKind.f64.format.order (absW b) 9218868437227405311 == some .gt) = false) : Calls Yba.prog 13 #[.float .f64 b, .int .i64 0] w fun e w' => e = .returned (.bool false) ∧ w' = w := by
  go_enter Yba.func13, Yba.ntmps13
  go_wp2_with (go_at_call 19; refine (abs_any b _).mono ?_; rintro e w' ⟨rfl, rfl⟩)
  go_ret
  exact ⟨rfl, rfl⟩

set_option maxHeartbeats 400000 in
theorem norm_no (b : Nat) (w : World) (h : (FloatKind.f64.format.order (absW b) 4503599627370496 == some .lt) = false) : Calls Yba.prog 15 #[.float .f64 b] w fun e w' => e = .returned (.tuple #[.float .f64 b, .int .i64 0]) ∧ w' = w := by
  go_enter Yba.func15, Yba.ntmps15
  go_wp2_with (go_at_call 19; refine (abs_any b _).mono ?_; rintro e w' ⟨rfl, rfl⟩)
  go_ret2
  exact ⟨rfl, rfl⟩

set_option maxHeartbeats 400000 in
theorem ldexp_walk (b r : Nat) (ex : Int) (w : World) (hx1 : -3000 ≤ ex) (hx2 : ex ≤ 3000) (h0 : (FloatKind.f64.format.order b 0 == some .eq) = false)
    (h1 : (FloatKind.f64.format.order (absW b) 9218868437227405311 == some .gt) = false) (h2 : (FloatKind.f64.format.order b b != some .eq) = false)
    (h3 : (FloatKind.f64.format.order (absW b) 4503599627370496 == some .lt) = false) (E : Nat) (hE : bits BinOp.and IntKind.i64 (wrap64 ((b : Int) / 4503599627370496)) 2047 = (E : Int)) (hE1 : E ≤ 2047) (g1 : 1 ≤ (E : Int) + ex) (g2 : (E : Int) + ex ≤ 2046)
    (hR : bits BinOp.or IntKind.u64 (bits BinOp.andNot IntKind.u64 (b : Int) 9218868437227405312) ((ex + ((E : Int) - 1023) + 1023) * 4503599627370496) = (r : Int))
    (hM : ∀ w, (binOp .mul 24 (.float .f64 4607182418800017408) (.float .f64 r)).run Yba.prog w = .ok (.float .f64 r) w) :
    Calls Yba.prog 12 #[.float .f64 b, .int .i64 ex] w fun e w' => e = .returned (.float .f64 r) ∧ w' = w := by
  have h6 := fb6
  have h16 := fb16
  go_enter Yba.func12, Yba.ntmps12
  go_wp2_with (first | (go_at_call 13; refine (isInf_no b _ h1).mono ?_; rintro e w' ⟨rfl, rfl⟩) | (go_at_call 14; refine (isNaN_no b _ h2).mono ?_; rintro e w' ⟨rfl, rfl⟩) | (go_at_call 15; refine (norm_no b _ h3).mono ?_; rintro e w' ⟨rfl, rfl⟩) | go_in)
  go_ret
  exact ⟨rfl, rfl⟩

open Ieee in
/-- math.ldexp of a normal number, the result normal. -/
theorem ldexp_word (s : Bool) (e e' K : Nat) (ex : Int) (w : World) (he : e ≤ 2045) (he' : e' ≤ 2045) (k1 : 4503599627370496 ≤ K) (k2 : K < 9007199254740992) (hex : (e' : Int) = e + ex) :
    Calls Yba.prog 12 #[.float .f64 (double.word s (e * 4503599627370496 + K)), .int .i64 ex] w fun r w' => r = .returned (.float .f64 (double.word s (e' * 4503599627370496 + K))) ∧ w' = w := by
  have ha : absW (double.word s (e * 4503599627370496 + K)) = e * 4503599627370496 + K := Fl.absW_is s e K he k2
  refine ldexp_walk _ _ ex w (by omega) (by omega) ?_ ?_ ?_ ?_ (e + 1) (Fl.field_is s e K he k1 k2) (by omega) (by omega) (by omega) (Fl.joined_is s e e' K he he' k1 k2 _ (by omega)) (fun w => run_float_arith (P := Yba.prog) w .mul 24 .f64 _ _ _ (Fl.one_mul s e' K he' k1 k2))
  · exact beq_eq_false_iff_ne.2 (Fl.order_zero s e K he k1 k2)
  · rw [ha]; exact beq_eq_false_iff_ne.2 (Fl.order_big e K he k1 k2)
  · have := Fl.order_self s e K he k1 k2
    show (double.order _ _ != _) = false
    rw [this]; rfl
  · rw [ha]; exact beq_eq_false_iff_ne.2 (Fl.order_small e K he k1 k2)

set_option maxHeartbeats 400000 in
/-- math.ldexp of a zero of either sign. -/
theorem ldexp_zero (b : Nat) (ex : Int) (w : World) (h0 : (FloatKind.f64.format.order b 0 == some .eq) = true) :
    Calls Yba.prog 12 #[.float .f64 b, .int .i64 ex] w fun r w' => r = .returned (.float .f64 b) ∧ w' = w := by
  go_enter Yba.func12, Yba.ntmps12
  go_wp2_with fail
  go_ret
  exact ⟨rfl, rfl⟩

set_option maxHeartbeats 400000 in
/-- math.Ldexp is math.ldexp. -/
theorem Ldexp_is (b r : Nat) (ex : Int) (w : World) (h : ∀ w, Calls Yba.prog 12 #[.float .f64 b, .int .i64 ex] w fun e w' => e = .returned (.float .f64 r) ∧ w' = w) :
    Calls Yba.prog 8 #[.float .f64 b, .int .i64 ex] w fun e w' => e = .returned (.float .f64 r) ∧ w' = w := by
  have H : Hid _ := h
  clear h
  go_enter Yba.func8, Yba.ntmps8
  go_wp2_with (go_at_call 12; refine (H.out _).mono ?_; rintro e w' ⟨rfl, rfl⟩)
  go_ret
  exact ⟨rfl, rfl⟩

open Ieee in
theorem Ldexp_word (s : Bool) (e e' K : Nat) (ex : Int) (w : World) (he : e ≤ 2045) (he' : e' ≤ 2045) (k1 : 4503599627370496 ≤ K) (k2 : K < 9007199254740992) (hex : (e' : Int) = e + ex) :
    Calls Yba.prog 8 #[.float .f64 (double.word s (e * 4503599627370496 + K)), .int .i64 ex] w fun r w' => r = .returned (.float .f64 (double.word s (e' * 4503599627370496 + K))) ∧ w' = w :=
  Ldexp_is _ _ ex w fun w => ldexp_word s e e' K ex w he he' k1 k2 hex
end Go.Proofs.Ybulkcqei
