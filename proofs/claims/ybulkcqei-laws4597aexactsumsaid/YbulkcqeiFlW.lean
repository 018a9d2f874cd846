import Derived.Test.YbulkcqeiFlR
import Derived.RowKit
import Derived.Laws.BitsAllLaws
import Derived.Laws.BitsLemmas
import Derived.Laws.Cover2
namespace Go.Proofs.Ybulkcqei.Fl
open Ieee Go

theorem and_split (i a b c d : Nat) (hb : b < 2 ^ i) (hd : d < 2 ^ i) : (2 ^ i * a + b) &&& (2 ^ i * c + d) = 2 ^ i * (a &&& c) + (b &&& d) := by
  apply Nat.eq_of_testBit_eq
  intro j
  rw [Nat.testBit_and, Nat.testBit_two_pow_mul_add _ hb, Nat.testBit_two_pow_mul_add _ hd, Nat.testBit_two_pow_mul_add _ (Nat.lt_of_le_of_lt Nat.and_le_left hb)]
  split <;> simp [Nat.testBit_and]
theorem or_split (i a b c d : Nat) (hb : b < 2 ^ i) (hd : d < 2 ^ i) : (2 ^ i * a + b) ||| (2 ^ i * c + d) = 2 ^ i * (a ||| c) + (b ||| d) := by
  apply Nat.eq_of_testBit_eq
  intro j
  rw [Nat.testBit_or, Nat.testBit_two_pow_mul_add _ hb, Nat.testBit_two_pow_mul_add _ hd, Nat.testBit_two_pow_mul_add _ (Nat.or_lt_two_pow hb hd)]
  split <;> simp [Nat.testBit_or]

/-- The word of a normal number, by sign, exponent field and fraction. -/
theorem word_parts (s : Bool) (e K : Nat) (h1 : 4503599627370496 ≤ K) : double.word s (e * 4503599627370496 + K) = 2 ^ 52 * (2048 * s.toNat + (e + 1)) + (K - 4503599627370496) := by
  cases s
  · show e * 4503599627370496 + K = _
    simp only [Bool.toNat_false]
    omega
  · show 9223372036854775808 + (e * 4503599627370496 + K) = _
    simp only [Bool.toNat_true]
    omega

theorem word_lt (s : Bool) (e K : Nat) (he : e ≤ 2045) (h2 : K < 9007199254740992) : double.word s (e * 4503599627370496 + K) < 18446744073709551616 := by
  cases s
  · show e * 4503599627370496 + K < _
    omega
  · show 9223372036854775808 + (e * 4503599627370496 + K) < _
    omega

theorem absW_is (s : Bool) (e K : Nat) (he : e ≤ 2045) (h2 : K < 9007199254740992) :
    (bits .andNot .u64 ((double.word s (e * 4503599627370496 + K) : Nat) : Int) 9223372036854775808).toNat = e * 4503599627370496 + K := by
  have h := u64_andNot_nat (double.word s (e * 4503599627370496 + K)) 9223372036854775808 (word_lt s e K he h2) (by decide)
  rw [show ((9223372036854775808 : Nat) : Int) = 9223372036854775808 from rfl] at h
  rw [h, Int.toNat_natCast, show 18446744073709551615 - 9223372036854775808 = 2 ^ 63 - 1 from rfl, Nat.and_two_pow_sub_one_eq_mod]
  cases s
  · show (e * 4503599627370496 + K) % 2 ^ 63 = _
    omega
  · show (9223372036854775808 + (e * 4503599627370496 + K)) % 2 ^ 63 = _
    omega

theorem field_is (s : Bool) (e K : Nat) (he : e ≤ 2045) (h1 : 4503599627370496 ≤ K) (h2 : K < 9007199254740992) :
    bits BinOp.and IntKind.i64 (Go.RowKit.wrap64 (((double.word s (e * 4503599627370496 + K) : Nat) : Int) / 4503599627370496)) 2047 = ((e + 1 : Nat) : Int) := by
  rw [word_parts s e K h1]
  have hs : s.toNat ≤ 1 := Bool.toNat_le s
  have e1 : ((2 ^ 52 * (2048 * s.toNat + (e + 1)) + (K - 4503599627370496) : Nat) : Int) / 4503599627370496 = ((2048 * s.toNat + (e + 1) : Nat) : Int) := by omega
  rw [e1]
  have e2 : Go.RowKit.wrap64 ((2048 * s.toNat + (e + 1) : Nat) : Int) = ((2048 * s.toNat + (e + 1) : Nat) : Int) := by unfold Go.RowKit.wrap64; omega
  rw [e2]
  have h := bits_mask .i64 62 (by decide) (fun n h0 h1 => by rw [IntKind.wrap_i64]; omega) 11 (by decide) ((2048 * s.toNat + (e + 1) : Nat) : Int) (by omega) (by omega)
  rw [show ((2 : Int) ^ 11 - 1) = 2047 from rfl] at h
  rw [h, show ((2 : Int) ^ 11) = 2048 from rfl]
  omega

theorem joined_is (s : Bool) (e e' K : Nat) (he : e ≤ 2045) (he' : e' ≤ 2045) (h1 : 4503599627370496 ≤ K) (h2 : K < 9007199254740992) (X : Int) (hX : X = ((e' + 1 : Nat) : Int) * 4503599627370496) :
    bits BinOp.or IntKind.u64 (bits BinOp.andNot IntKind.u64 ((double.word s (e * 4503599627370496 + K) : Nat) : Int) 9218868437227405312) X = ((double.word s (e' * 4503599627370496 + K) : Nat) : Int) := by
  have hs : s.toNat ≤ 1 := Bool.toNat_le s
  have hsb : (2048 * s.toNat + (e + 1)) &&& 2048 = 2048 * s.toNat := by
    have := and_split 11 s.toNat (e + 1) 1 0 (by omega) (by decide)
    rw [show 2 ^ 11 * 1 + 0 = 2048 from rfl, show 2 ^ 11 = 2048 from rfl] at this
    rw [this]
    have e3 : s.toNat &&& 1 = s.toNat := by cases s <;> rfl
    rw [e3, Nat.and_zero]; rfl
  have a := u64_andNot_nat (double.word s (e * 4503599627370496 + K)) 9218868437227405312 (word_lt s e K he h2) (by decide)
  rw [show ((9218868437227405312 : Nat) : Int) = 9218868437227405312 from rfl] at a
  rw [a]
  have b : double.word s (e * 4503599627370496 + K) &&& (18446744073709551615 - 9218868437227405312) = 2 ^ 52 * (2048 * s.toNat) + (K - 4503599627370496) := by
    rw [word_parts s e K h1, show 18446744073709551615 - 9218868437227405312 = 2 ^ 52 * 2048 + 4503599627370495 from rfl]
    rw [and_split 52 _ _ 2048 4503599627370495 (by omega) (by decide), hsb, show 4503599627370495 = 2 ^ 52 - 1 from rfl, Nat.and_two_pow_sub_one_eq_mod]
    omega
  rw [b, hX]
  have hX' : ((e' + 1 : Nat) : Int) * 4503599627370496 = ((2 ^ 52 * (e' + 1) + 0 : Nat) : Int) := by omega
  rw [hX']
  rw [u64_or_nat _ _ (by omega) (by omega)]
  congr 1
  rw [or_split 52 _ _ _ 0 (by omega) (by decide), word_parts s e' K h1, Nat.or_zero]
  have c : 2048 * s.toNat ||| (e' + 1) = 2048 * s.toNat + (e' + 1) := by
    have := or_split 11 s.toNat 0 0 (e' + 1) (by decide) (by omega)
    rw [show 2 ^ 11 = 2048 from rfl, Nat.or_zero, Nat.zero_or, Nat.mul_zero, Nat.add_zero, Nat.zero_add] at this
    exact this
  rw [c]

/-! ### Order -/
theorem cmp_scale (u v : Nat) (X Y A B : Int) (hu : 0 < u) (hv : 0 < v) (h1 : (u : Int) * X = v * A) (h2 : (u : Int) * Y = v * B) : compare X Y = compare A B := by
  have hu' : (0 : Int) < (u : Int) := by omega
  have hv' : (0 : Int) < (v : Int) := by omega
  rcases Int.lt_trichotomy A B with h | h | h
  · have : (u : Int) * X < u * Y := by rw [h1, h2]; exact Int.mul_lt_mul_of_pos_left h hv'
    have hxy : X < Y := Int.lt_of_mul_lt_mul_left this (by omega)
    rw [Int.compare_eq_lt.2 h, Int.compare_eq_lt.2 hxy]
  · have : (u : Int) * X = u * Y := by rw [h1, h2, h]
    have hxy : X = Y := Int.eq_of_mul_eq_mul_left (by omega) this
    rw [Int.compare_eq_eq.2 h, Int.compare_eq_eq.2 hxy]
  · have : (u : Int) * Y < u * X := by rw [h1, h2]; exact Int.mul_lt_mul_of_pos_left h hv'
    have hxy : Y < X := Int.lt_of_mul_lt_mul_left this (by omega)
    rw [Int.compare_eq_gt.2 h, Int.compare_eq_gt.2 hxy]

theorem order_rep {d e : Datum} {s t : Bool} {N M : Nat} {q : Int} (h : Rep d s N q) (k : Rep e t M q) : Datum.order d e = some (compare (sg s N) (sg t M)) := by
  obtain ⟨m, i, rfl, h⟩ := h
  obtain ⟨n, j, rfl, k⟩ := k
  have h' := h (min (min i j) q) (by omega) (by omega)
  have k' := k (min (min i j) q) (by omega) (by omega)
  simp only [Datum.order]
  congr 1
  refine cmp_scale (2 ^ (min i j - min (min i j) q).toNat) (2 ^ (q - min (min i j) q).toNat) _ _ _ _ (Nat.two_pow_pos _) (Nat.two_pow_pos _) ?_ ?_
  · have a1 : signed s m (i - min i j).toNat = sg s (m * 2 ^ (i - min i j).toNat) := by rw [signed_sg, sg_mul]; simp
    rw [a1, Int.mul_comm, ← sg_mul, Int.mul_comm (_ : Int) (sg s N), ← sg_mul, ← h', Nat.mul_assoc, ← pow_split (by omega) (by omega)]
  · have a2 : signed t n (j - min i j).toNat = sg t (n * 2 ^ (j - min i j).toNat) := by rw [signed_sg, sg_mul]; simp
    rw [a2, Int.mul_comm, ← sg_mul, Int.mul_comm (_ : Int) (sg t M), ← sg_mul, ← k', Nat.mul_assoc, ← pow_split (by omega) (by omega)]

/-- A normal word, as a number at the place -1074. -/
theorem rep_word (s : Bool) (e K : Nat) (he : e ≤ 2045) (h1 : 4503599627370496 ≤ K) (h2 : K < 9007199254740992) : Rep (double.read (double.word s (e * 4503599627370496 + K))) s (K * 2 ^ e) (-1074) := by
  rw [read_word s e K he h1 h2]
  refine rep_mk (-1074) (by omega) (Int.le_refl _) ?_
  rw [show (-1074 + (e : Int) - -1074).toNat = e by omega, show ((-1074 : Int) - -1074).toNat = 0 from rfl, Nat.pow_zero, Nat.mul_one]

theorem order_self (s : Bool) (e K : Nat) (he : e ≤ 2045) (h1 : 4503599627370496 ≤ K) (h2 : K < 9007199254740992) :
    double.order (double.word s (e * 4503599627370496 + K)) (double.word s (e * 4503599627370496 + K)) = some .eq := by
  unfold Format.order
  rw [order_rep (rep_word s e K he h1 h2) (rep_word s e K he h1 h2), Int.compare_eq_eq.2 rfl]

theorem order_zero (s : Bool) (e K : Nat) (he : e ≤ 2045) (h1 : 4503599627370496 ≤ K) (h2 : K < 9007199254740992) :
    double.order (double.word s (e * 4503599627370496 + K)) 0 ≠ some .eq := by
  unfold Format.order
  rw [show (0 : Nat) = double.word false 0 from rfl, order_rep (rep_word s e K he h1 h2) (rep_word0 false (-1074))]
  intro h
  injection h with h
  have := Int.compare_eq_eq.1 h
  have hp : 0 < K * 2 ^ e := Nat.mul_pos (by omega) (Nat.two_pow_pos e)
  generalize K * 2 ^ e = Z at this hp
  cases s
  · simp only [sg, Bool.false_eq_true, if_false] at this
    omega
  · simp only [sg, Bool.false_eq_true, if_false, if_true] at this
    omega

theorem order_small (e K : Nat) (he : e ≤ 2045) (h1 : 4503599627370496 ≤ K) (h2 : K < 9007199254740992) :
    double.order (e * 4503599627370496 + K) 4503599627370496 ≠ some .lt := by
  unfold Format.order
  have r1 := rep_word false e K he h1 h2
  have r2 := rep_word false 0 4503599627370496 (by omega) (by omega) (by omega)
  rw [show double.word false (e * 4503599627370496 + K) = e * 4503599627370496 + K from rfl] at r1
  rw [show double.word false (0 * 4503599627370496 + 4503599627370496) = 4503599627370496 from rfl] at r2
  rw [order_rep r1 r2]
  intro h
  injection h with h
  have := Int.compare_eq_lt.1 h
  have hp : K ≤ K * 2 ^ e := Nat.le_mul_of_pos_right _ (Nat.two_pow_pos e)
  simp only [sg, Bool.false_eq_true, if_false, Nat.pow_zero, Nat.mul_one] at this
  omega

theorem order_big (e K : Nat) (he : e ≤ 2045) (h1 : 4503599627370496 ≤ K) (h2 : K < 9007199254740992) :
    double.order (e * 4503599627370496 + K) 9218868437227405311 ≠ some .gt := by
  unfold Format.order
  have r1 := rep_word false e K he h1 h2
  obtain ⟨n, hn⟩ : ∃ n, n = 2045 := ⟨_, rfl⟩
  have r2 := rep_word false n 9007199254740991 (by omega) (by omega) (by omega)
  rw [show double.word false (e * 4503599627370496 + K) = e * 4503599627370496 + K from rfl] at r1
  have ew : double.word false (n * 4503599627370496 + 9007199254740991) = 9218868437227405311 := by
    show n * 4503599627370496 + 9007199254740991 = _
    omega
  rw [ew] at r2
  rw [order_rep r1 r2]
  intro h
  injection h with h
  have := Int.compare_eq_gt.1 h
  have hp : K * 2 ^ e ≤ 9007199254740991 * 2 ^ n := Nat.mul_le_mul (by omega) (Nat.pow_le_pow_right (by decide) (by omega))
  simp only [sg, Bool.false_eq_true, if_false] at this
  generalize 9007199254740991 * 2 ^ n = B at this hp
  omega

theorem one_mul (s : Bool) (e K : Nat) (he : e ≤ 2045) (h1 : 4503599627370496 ≤ K) (h2 : K < 9007199254740992) :
    double.mul 4607182418800017408 (double.word s (e * 4503599627370496 + K)) = some (double.word s (e * 4503599627370496 + K)) := by
  have r1 := read_word false 1022 4503599627370496 (by omega) (by omega) (by omega)
  rw [show double.word false (1022 * 4503599627370496 + 4503599627370496) = 4607182418800017408 from rfl] at r1
  have rr : Rep (double.read 4607182418800017408) false 1 0 := by
    rw [r1]
    exact rep_mk (-52) (by omega) (by omega) (by rfl)
  have r2 : Rep (double.read (double.word s (e * 4503599627370496 + K))) s K (-1074 + (e : Int)) := by
    rw [read_word s e K he h1 h2]; exact rep_self _ _ _
  obtain ⟨p, hp, rp⟩ := product_rep rr r2
  unfold Format.mul
  rw [hp, Option.map_some, write_rep rp (by omega)]
  have hL : K.log2 = 52 := by
    have a := (Nat.le_log2 (n := K) (k := 52) (by omega)).2 (by omega)
    have b := (Nat.log2_lt (n := K) (k := 53) (by omega)).2 (by omega)
    omega
  obtain ⟨hx, _⟩ := nearest_exact s K (-1074 + (e : Int)) (by omega) h2 (by omega) (by omega)
  rw [Nat.one_mul, Int.zero_add, Bool.false_xor, hx, hL]
  rw [show (-1074 + (e : Int) + ((52 : Nat) : Int) + 1022).toNat = e by omega, Nat.sub_self, Nat.pow_zero, Nat.mul_one]
end Go.Proofs.Ybulkcqei.Fl
