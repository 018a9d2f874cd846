import Ieee.Arith
import Derived.Laws.FloatBits
namespace Go.Proofs.Ybulkcqei.Fl
open Ieee

theorem binade_eq : double.binade = 4503599627370496 := rfl
theorem sw_eq : double.signWeight = 9223372036854775808 := rfl
theorem inf_eq : double.infRung = 9218868437227405312 := rfl
theorem lp_eq : double.leastPlace = -1074 := rfl
theorem fb_eq : double.fractionBits = 52 := rfl

theorem log2_mul_pow (m k : Nat) (hm : 0 < m) : (m * 2 ^ k).log2 = m.log2 + k := by
  induction k with
  | zero => simp
  | succ k ih =>
    have h0 : m * 2 ^ k ≠ 0 := by
      have := Nat.two_pow_pos k
      exact Nat.ne_of_gt (Nat.mul_pos hm this)
    rw [Nat.pow_succ, show m * (2 ^ k * 2) = 2 * (m * 2 ^ k) by rw [← Nat.mul_assoc, Nat.mul_comm], Nat.log2_two_mul h0, ih]
    omega

theorem log2_le {m : Nat} (hm : 0 < m) : 2 ^ m.log2 ≤ m := Nat.log2_self_le (by omega)
theorem lt_log2 (m : Nat) : m < 2 ^ (m.log2 + 1) := Nat.lt_log2_self

theorem cut_zero (neg : Bool) (n : Nat) : Toward.even.cut neg n 0 = n := by
  simp [Toward.cut, Nat.mod_one]

theorem cut_at (neg : Bool) (n d : Nat) (h : d ≤ n.log2 + 2) :
    Toward.even.cut neg n d = n / 2 ^ d + (decide (2 ^ d < 2 * (n % 2 ^ d)) || (2 ^ d == 2 * (n % 2 ^ d) && n / 2 ^ d % 2 == 1)).toNat := by
  simp only [Toward.cut, Nat.min_eq_left h, Nat.one_shiftLeft]

theorem cut_shift (neg : Bool) (n d k : Nat) (hn : 0 < n) : Toward.even.cut neg (n * 2 ^ k) (d + k) = Toward.even.cut neg n d := by
  have hk := Nat.two_pow_pos k
  simp only [Toward.cut, Nat.one_shiftLeft, log2_mul_pow n k hn]
  have e : min (d + k) (n.log2 + k + 2) = min d (n.log2 + 2) + k := by omega
  rw [e, Nat.pow_add]
  generalize hg : 2 ^ min d (n.log2 + 2) = g
  rw [Nat.mul_div_mul_right _ _ hk, Nat.mul_mod_mul_right]
  have a1 : (g * 2 ^ k < 2 * (n % g * 2 ^ k)) = (g < 2 * (n % g)) := by
    rw [← Nat.mul_assoc]
    exact propext (Nat.mul_lt_mul_right hk)
  have a2 : (g * 2 ^ k == 2 * (n % g * 2 ^ k)) = (g == 2 * (n % g)) := by
    rw [← Nat.mul_assoc, Bool.eq_iff_iff, beq_iff_eq, beq_iff_eq]
    exact Nat.mul_left_inj (by omega)
  simp only [a1, a2]

theorem nearest_shift (s : Bool) (m k : Nat) (p : Int) (hm : 0 < m) : double.nearest s (m * 2 ^ k) (p - k) = double.nearest s m p := by
  have hk := Nat.two_pow_pos k
  have hmk : 0 < m * 2 ^ k := Nat.mul_pos hm hk
  unfold Format.nearest
  rw [if_neg (by omega), if_neg (by omega)]
  simp only [log2_mul_pow m k hm, fb_eq, lp_eq]
  have e1 : p - (k : Int) + ((m.log2 + k : Nat) : Int) - 52 = p + (m.log2 : Int) - 52 := by omega
  have e1' : p - (k : Int) + ((m.log2 + k : Nat) : Int) - ((52 : Nat) : Int) = p + (m.log2 : Int) - ((52 : Nat) : Int) := by omega
  rw [e1']
  generalize max (p + (m.log2 : Int) - ((52 : Nat) : Int)) (-1074) = last
  have key : Toward.even.cut s ((m * 2 ^ k) <<< (p - k - last).toNat) (last - (p - k)).toNat = Toward.even.cut s (m <<< (p - last).toNat) (last - p).toNat := by
    rw [Nat.shiftLeft_eq, Nat.shiftLeft_eq]
    by_cases h1 : last ≤ p
    · have z2 : (last - p).toNat = 0 := by omega
      obtain ⟨a, ha⟩ : ∃ a : Nat, p - last = a := ⟨(p - last).toNat, by omega⟩
      by_cases h2 : k ≤ a
      · have z1 : (last - (p - k)).toNat = 0 := by omega
        have z3 : (p - k - last).toNat = a - k := by omega
        have z4 : (p - last).toNat = a := by omega
        rw [z1, z2, z3, z4, Nat.mul_assoc, ← Nat.pow_add, Nat.add_sub_cancel' h2]
      · have z1 : (last - (p - k)).toNat = 0 + (k - a) := by omega
        have z3 : (p - k - last).toNat = 0 := by omega
        have z4 : (p - last).toNat = a := by omega
        rw [z1, z2, z3, z4, Nat.pow_zero, Nat.mul_one]
        have e : m * 2 ^ k = m * 2 ^ a * 2 ^ (k - a) := by rw [Nat.mul_assoc, ← Nat.pow_add, Nat.add_sub_cancel' (by omega)]
        rw [e, cut_shift s (m * 2 ^ a) 0 (k - a) (Nat.mul_pos hm (Nat.two_pow_pos a))]
    · have z1 : (last - (p - k)).toNat = (last - p).toNat + k := by omega
      have z3 : (p - k - last).toNat = 0 := by omega
      have z4 : (p - last).toNat = 0 := by omega
      rw [z1, z3, z4, Nat.pow_zero, Nat.mul_one, Nat.mul_one, cut_shift s m _ k hm]
  rw [key]

/-- The same, the places given by an equation. -/
theorem nearest_eq (s : Bool) (m m' k : Nat) (p p' : Int) (hm : 0 < m) (h1 : m' = m * 2 ^ k) (h2 : p' = p - k) : double.nearest s m' p' = double.nearest s m p := by
  rw [h1, h2]; exact nearest_shift s m k p hm

theorem read_word (s : Bool) (e m : Nat) (he : e ≤ 2045) (h1 : 4503599627370496 ≤ m) (h2 : m < 9007199254740992) :
    double.read (double.word s (e * 4503599627370496 + m)) = .number s m (-1074 + (e : Int)) := by
  have hr : e * 4503599627370496 + m < 9218868437227405312 := by omega
  unfold Format.read Format.word
  simp only [binade_eq, sw_eq, inf_eq, lp_eq]
  have a1 : (if s = true then 9223372036854775808 + (e * 4503599627370496 + m) else e * 4503599627370496 + m) % 9223372036854775808 = e * 4503599627370496 + m := by cases s <;> simp <;> omega
  have a2 : ((if s = true then 9223372036854775808 + (e * 4503599627370496 + m) else e * 4503599627370496 + m) / 9223372036854775808 % 2 == 1) = s := by
    cases s
    · have : (e * 4503599627370496 + m) / 9223372036854775808 = 0 := by omega
      simp [this]
    · have : (9223372036854775808 + (e * 4503599627370496 + m)) / 9223372036854775808 = 1 := by omega
      simp [this]
  simp only [a1, a2]
  rw [if_neg (by omega), if_pos hr]
  have a3 : 4503599627370496 + (e * 4503599627370496 + m) % 4503599627370496 = m := by omega
  have a4 : (e * 4503599627370496 + m) / 4503599627370496 - 1 = e := by omega
  rw [a3, a4]

theorem read_zero (s : Bool) : double.read (double.word s 0) = .number s 0 (-1074) := by cases s <;> rfl

/-- A number that the format has, normal: its word. -/
theorem nearest_exact (s : Bool) (N : Nat) (q : Int) (h0 : 0 < N) (h1 : N < 9007199254740992) (h2 : -1022 ≤ q + (N.log2 : Int)) (h3 : q + (N.log2 : Int) ≤ 1023) :
    double.nearest s N q = double.word s ((q + (N.log2 : Int) + 1022).toNat * 4503599627370496 + N * 2 ^ (52 - N.log2)) ∧ N.log2 ≤ 52 ∧ 4503599627370496 ≤ N * 2 ^ (52 - N.log2) ∧ N * 2 ^ (52 - N.log2) < 9007199254740992 := by
  have hL : N.log2 ≤ 52 := by
    have := (Nat.log2_lt (n := N) (k := 53) (by omega)).2 (by omega)
    omega
  have b1 : 4503599627370496 ≤ N * 2 ^ (52 - N.log2) := by
    have := Nat.mul_le_mul_right (2 ^ (52 - N.log2)) (log2_le h0)
    rw [← Nat.pow_add, Nat.add_sub_cancel' hL] at this
    omega
  have b2 : N * 2 ^ (52 - N.log2) < 9007199254740992 := by
    have := (Nat.mul_lt_mul_right (Nat.two_pow_pos (52 - N.log2))).2 (lt_log2 N)
    rw [← Nat.pow_add, show N.log2 + 1 + (52 - N.log2) = 53 by omega] at this
    omega
  refine ⟨?_, hL, b1, b2⟩
  unfold Format.nearest
  rw [if_neg (by omega)]
  simp only [fb_eq, lp_eq, binade_eq, inf_eq]
  have e1 : max (q + (N.log2 : Int) - ((52 : Nat) : Int)) (-1074) = q + (N.log2 : Int) - 52 := by omega
  rw [e1]
  have e2 : (q - (q + (N.log2 : Int) - 52)).toNat = 52 - N.log2 := by omega
  have e3 : (q + (N.log2 : Int) - 52 - q).toNat = 0 := by omega
  rw [e2, e3, cut_zero, Nat.shiftLeft_eq]
  have e4 : (q + (N.log2 : Int) - 52 - -1074).toNat = (q + (N.log2 : Int) + 1022).toNat := by omega
  rw [e4, Nat.min_eq_left (by omega)]

theorem read_exact (s : Bool) (N : Nat) (q : Int) (h0 : 0 < N) (h1 : N < 9007199254740992) (h2 : -1022 ≤ q + (N.log2 : Int)) (h3 : q + (N.log2 : Int) ≤ 1023) :
    ∃ k : Nat, k ≤ 52 ∧ double.read (double.nearest s N q) = .number s (N * 2 ^ k) (q - k) := by
  obtain ⟨e, hL, b1, b2⟩ := nearest_exact s N q h0 h1 h2 h3
  refine ⟨52 - N.log2, by omega, ?_⟩
  rw [e, read_word s _ _ (by omega) b1 b2]
  congr 1
  omega

theorem nearest_zero (s : Bool) (p : Int) : double.nearest s 0 p = double.word s 0 := by simp [Format.nearest]

/-! ### The operations on such words -/

theorem signed_pos (m u : Nat) : signed false m u = ((m * 2 ^ u : Nat) : Int) := by simp [signed, Nat.shiftLeft_eq]
theorem signed_neg (m u : Nat) : signed true m u = -((m * 2 ^ u : Nat) : Int) := by simp [signed, Nat.shiftLeft_eq]

/-- The signed number. -/
def sg (s : Bool) (N : Nat) : Int := if s then -(N : Int) else N

theorem signed_sg (s : Bool) (m u : Nat) : signed s m u = sg s m * 2 ^ u := by
  cases s
  · simp [signed_pos, sg, Int.natCast_mul]
  · simp [signed_neg, sg, Int.natCast_mul, Int.neg_mul]

/-- 'd' is the number of sign s and magnitude N * 2 ^ q, however it is written. -/
def Rep (d : Datum) (s : Bool) (N : Nat) (q : Int) : Prop :=
  ∃ (m : Nat) (i : Int), d = .number s m i ∧ ∀ b : Int, b ≤ i → b ≤ q → m * 2 ^ (i - b).toNat = N * 2 ^ (q - b).toNat

theorem pow_split {i b c : Int} (h1 : c ≤ b) (h2 : b ≤ i) : 2 ^ (i - c).toNat = 2 ^ (i - b).toNat * 2 ^ (b - c).toNat := by
  rw [← Nat.pow_add]
  congr 1
  omega

/-- One common place is enough. -/
theorem rep_mk {s : Bool} {m N : Nat} {i q : Int} (b : Int) (h1 : b ≤ i) (h2 : b ≤ q) (h : m * 2 ^ (i - b).toNat = N * 2 ^ (q - b).toNat) : Rep (.number s m i) s N q := by
  refine ⟨m, i, rfl, fun c hc1 hc2 => ?_⟩
  rcases Int.le_total c b with hcb | hcb
  · rw [pow_split hcb h1, pow_split hcb h2, ← Nat.mul_assoc, ← Nat.mul_assoc, h]
  · rw [pow_split hcb hc1, pow_split hcb hc2, ← Nat.mul_assoc, ← Nat.mul_assoc] at h
    exact Nat.eq_of_mul_eq_mul_right (Nat.two_pow_pos _) h

theorem rep_self (s : Bool) (N : Nat) (q : Int) : Rep (.number s N q) s N q := rep_mk q (Int.le_refl _) (Int.le_refl _) rfl

theorem rep_zero (s : Bool) (i q : Int) : Rep (.number s 0 i) s 0 q := rep_mk (min i q) (by omega) (by omega) (by simp)

theorem rep_pos {d : Datum} {s : Bool} {N : Nat} {q : Int} (h : Rep d s N q) : ∃ m i, d = .number s m i ∧ (m = 0 ↔ N = 0) := by
  obtain ⟨m, i, rfl, h⟩ := h
  refine ⟨m, i, rfl, ?_⟩
  have e := h (min i q) (by omega) (by omega)
  have p1 := Nat.two_pow_pos (i - min i q).toNat
  have p2 := Nat.two_pow_pos (q - min i q).toNat
  constructor
  · rintro rfl
    rw [Nat.zero_mul] at e
    rcases Nat.mul_eq_zero.1 e.symm with h | h <;> omega
  · rintro rfl
    rw [Nat.zero_mul] at e
    rcases Nat.mul_eq_zero.1 e with h | h <;> omega

theorem write_rep {d : Datum} {s : Bool} {N : Nat} {q : Int} (h : Rep d s N q) (h0 : 0 < N) : double.write d = double.nearest s N q := by
  obtain ⟨m, i, e, hm⟩ := rep_pos h
  obtain ⟨m', i', rfl, h⟩ := h
  injection e with _ e1 e2
  subst e1 e2
  have hm0 : 0 < m' := by
    rcases Nat.eq_zero_or_pos m' with h' | h'
    · have := hm.1 h'; omega
    · exact h'
  have hb := h (min i' q) (by omega) (by omega)
  show double.nearest s m' i' = _
  rw [← nearest_eq s m' _ (i' - min i' q).toNat i' (min i' q) hm0 rfl (by omega), ← nearest_eq s N _ (q - min i' q).toNat q (min i' q) h0 rfl (by omega), hb]

theorem write_rep_zero {d : Datum} {s : Bool} {q : Int} (h : Rep d s 0 q) : double.write d = double.word s 0 := by
  obtain ⟨m, i, rfl, hm⟩ := rep_pos h
  rw [hm.2 rfl]
  exact nearest_zero s i

theorem product_rep {d e : Datum} {s t : Bool} {N M : Nat} {q r : Int} (h : Rep d s N q) (k : Rep e t M r) : ∃ p, Datum.product d e = some p ∧ Rep p (s ^^ t) (N * M) (q + r) := by
  obtain ⟨m, i, rfl, h⟩ := h
  obtain ⟨n, j, rfl, k⟩ := k
  refine ⟨_, rfl, rep_mk (min i q + min j r) (by omega) (by omega) ?_⟩
  have h' := h (min i q) (by omega) (by omega)
  have k' := k (min j r) (by omega) (by omega)
  have e1 : (i + j - (min i q + min j r)).toNat = (i - min i q).toNat + (j - min j r).toNat := by omega
  have e2 : (q + r - (min i q + min j r)).toNat = (q - min i q).toNat + (r - min j r).toNat := by omega
  rw [e1, e2, Nat.pow_add, Nat.pow_add, Nat.mul_mul_mul_comm, h', k', Nat.mul_mul_mul_comm]

theorem sg_mul (s : Bool) (N u : Nat) : sg s (N * u) = sg s N * (u : Int) := by cases s <;> simp [sg, Int.neg_mul]

/-- The sum's total, at a place below all. -/
theorem sum_rep {d e : Datum} {s t : Bool} {N M : Nat} {q : Int} (h : Rep d s N q) (k : Rep e t M q) :
    ∃ m i n j, d = .number s m i ∧ e = .number t n j ∧ ∃ u v : Nat, 0 < u ∧ 0 < v ∧ (u : Int) * (signed s m (i - min i j).toNat + signed t n (j - min i j).toNat) = v * (sg s N + sg t M) ∧
      ∃ b : Int, b ≤ min i j ∧ b ≤ q ∧ u = 2 ^ (min i j - b).toNat ∧ v = 2 ^ (q - b).toNat := by
  obtain ⟨m, i, rfl, h⟩ := h
  obtain ⟨n, j, rfl, k⟩ := k
  refine ⟨m, i, n, j, rfl, rfl, 2 ^ (min i j - min (min i j) q).toNat, 2 ^ (q - min (min i j) q).toNat, Nat.two_pow_pos _, Nat.two_pow_pos _, ?_, min (min i j) q, by omega, by omega, rfl, rfl⟩
  have h' := h (min (min i j) q) (by omega) (by omega)
  have k' := k (min (min i j) q) (by omega) (by omega)
  have a1 : signed s m (i - min i j).toNat = sg s (m * 2 ^ (i - min i j).toNat) := by rw [signed_sg, sg_mul]; simp
  have a2 : signed t n (j - min i j).toNat = sg t (n * 2 ^ (j - min i j).toNat) := by rw [signed_sg, sg_mul]; simp
  rw [a1, a2, Int.mul_add, Int.mul_comm, ← sg_mul, Int.mul_comm (_ : Int) (sg t _), ← sg_mul, Int.mul_add, Int.mul_comm (_ : Int) (sg s N), ← sg_mul, Int.mul_comm (_ : Int) (sg t M), ← sg_mul]
  rw [← h', ← k', Nat.mul_assoc, Nat.mul_assoc, ← pow_split (by omega) (by omega), ← pow_split (by omega) (by omega)]

theorem write_sum {d e : Datum} {s t : Bool} {N M : Nat} {q : Int} (h : Rep d s N q) (k : Rep e t M q) (T : Int) (hT : sg s N + sg t M = T) (h0 : T ≠ 0) :
    (Datum.sum d e).map double.write = some (double.nearest (decide (T < 0)) T.natAbs q) := by
  obtain ⟨m, i, n, j, rfl, rfl, u, v, hu, hv, e, b, hb1, hb2, e1, e2⟩ := sum_rep h k
  simp only [Datum.sum, Option.map_some, Format.write]
  rw [hT] at e
  generalize signed s m (i - min i j).toNat + signed t n (j - min i j).toNat = X at e ⊢
  have hX : X ≠ 0 := by
    rintro rfl
    rw [Int.mul_zero] at e
    rcases Int.mul_eq_zero.1 e.symm with h | h <;> omega
  rw [if_neg hX]
  have e3 : decide (X < 0) = decide (T < 0) := by
    rw [decide_eq_decide]
    constructor
    · intro hx
      have : (u : Int) * X < 0 := Int.mul_neg_of_pos_of_neg (by omega) hx
      rcases Int.lt_or_le T 0 with h' | h'
      · exact h'
      · have := Int.mul_nonneg (show (0 : Int) ≤ (v : Int) by omega) h'; omega
    · intro hx
      have : (v : Int) * T < 0 := Int.mul_neg_of_pos_of_neg (by omega) hx
      rcases Int.lt_or_le X 0 with h' | h'
      · exact h'
      · have := Int.mul_nonneg (show (0 : Int) ≤ (u : Int) by omega) h'; omega
  rw [e3]
  have e4 : X.natAbs * u = T.natAbs * v := by
    have := congrArg Int.natAbs e
    rw [Int.natAbs_mul, Int.natAbs_mul, Int.natAbs_natCast, Int.natAbs_natCast] at this
    rw [Nat.mul_comm, this, Nat.mul_comm]
  congr 1
  rw [← nearest_eq _ X.natAbs (X.natAbs * u) (min i j - b).toNat (min i j) b (by omega) (by rw [e1]) (by omega), ← nearest_eq _ T.natAbs (T.natAbs * v) (q - b).toNat q b (by omega) (by rw [e2]) (by omega), e4]

theorem write_sum_zero {d e : Datum} {s t : Bool} {N M : Nat} {q : Int} (h : Rep d s N q) (k : Rep e t M q) (hT : sg s N + sg t M = 0) :
    (Datum.sum d e).map double.write = some (double.word (s && t) 0) := by
  obtain ⟨m, i, n, j, rfl, rfl, u, v, hu, hv, e, b, hb1, hb2, e1, e2⟩ := sum_rep h k
  simp only [Datum.sum, Option.map_some, Format.write]
  rw [hT, Int.mul_zero] at e
  have hX : signed s m (i - min i j).toNat + signed t n (j - min i j).toNat = 0 := by
    rcases Int.mul_eq_zero.1 e with h | h
    · omega
    · exact h
  simp only [hX, if_true]
  exact congrArg some (nearest_zero _ _)

/-! ### Words -/
theorem rep_exact (s : Bool) (N : Nat) (q : Int) (h0 : 0 < N) (h1 : N < 9007199254740992) (h2 : -1022 ≤ q + (N.log2 : Int)) (h3 : q + (N.log2 : Int) ≤ 1023) :
    Rep (double.read (double.nearest s N q)) s N q := by
  obtain ⟨k, _, e⟩ := read_exact s N q h0 h1 h2 h3
  rw [e]
  refine rep_mk (q - k) (Int.le_refl _) (by omega) ?_
  rw [show (q - (k : Int) - (q - k)).toNat = 0 by omega, show (q - (q - (k : Int))).toNat = k by omega, Nat.pow_zero, Nat.mul_one]

theorem rep_word0 (s : Bool) (q : Int) : Rep (double.read (double.word s 0)) s 0 q := by rw [read_zero]; exact rep_zero s _ q

theorem neg_word (s : Bool) (r : Nat) (h : r < 9223372036854775808) : (double.word s r) ^^^ 9223372036854775808 = double.word (!s) r := by
  have hx : ∀ r : Nat, r < 9223372036854775808 → r ^^^ 9223372036854775808 = 9223372036854775808 + r := by
    intro r h
    apply Nat.eq_of_testBit_eq
    intro i
    rw [Nat.testBit_xor]
    have e : (9223372036854775808 : Nat) = 2 ^ 63 := rfl
    rw [e] at h ⊢
    rcases Nat.lt_trichotomy i 63 with hi | hi | hi
    · rw [Nat.testBit_two_pow_add_gt hi, Nat.testBit_two_pow_of_ne (by omega)]; simp
    · subst hi
      rw [Nat.testBit_two_pow_add_eq, Nat.testBit_two_pow_self]; simp
    · have a : r.testBit i = false := Nat.testBit_lt_two_pow (Nat.lt_of_lt_of_le h (Nat.pow_le_pow_right (by decide) (by omega)))
      have c : (2 ^ 63 + r).testBit i = false := Nat.testBit_lt_two_pow (Nat.lt_of_lt_of_le (show 2 ^ 63 + r < 2 ^ 64 by omega) (Nat.pow_le_pow_right (by decide) (by omega)))
      rw [a, c, Nat.testBit_two_pow_of_ne (by omega)]; rfl
  cases s
  · show r ^^^ 9223372036854775808 = 9223372036854775808 + r
    exact hx r h
  · show (9223372036854775808 + r) ^^^ 9223372036854775808 = r
    rw [← hx r h, Nat.xor_assoc, Nat.xor_self, Nat.xor_zero]
end Go.Proofs.Ybulkcqei.Fl
