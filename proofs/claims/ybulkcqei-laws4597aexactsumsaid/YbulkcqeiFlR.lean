import Derived.Test.YbulkcqeiFl
namespace Go.Proofs.Ybulkcqei.Fl
open Ieee

/-- The nearest word to a product of two full significands, and what is left over. -/
theorem nearest_prod (mag : Nat) (p : Int) (m1 : 20282409603651670423947251286016 ≤ mag) (m2 : mag < 81129638414606681695789005144064) (hp1 : -1004 ≤ p) (hp2 : p ≤ 794) :
    ∃ e K u : Nat, double.nearest false mag p = double.word false (e * 4503599627370496 + K) ∧ 4503599627370496 ≤ K ∧ K < 9007199254740992 ∧ 120 ≤ e ∧ e ≤ 1930 ∧
      (e : Int) = p + u + 1074 ∧ 2 * ((mag : Int) - (K * 2 ^ u : Nat)).natAbs ≤ 9007199254740992 := by
  have hL1 : 104 ≤ mag.log2 := (Nat.le_log2 (by omega)).2 (by omega)
  have hL2 : mag.log2 ≤ 105 := by
    have := (Nat.log2_lt (n := mag) (k := 106) (by omega)).2 (by omega)
    omega
  obtain ⟨d, hd⟩ : ∃ d, mag.log2 = d + 52 := ⟨mag.log2 - 52, by omega⟩
  have hmlo : 2 ^ (d + 52) ≤ mag := by rw [← hd]; exact log2_le (by omega)
  have hmhi : mag < 2 ^ (d + 53) := by have := lt_log2 mag; rw [hd] at this; exact this
  have hpd : 2 ^ d = 4503599627370496 ∨ 2 ^ d = 9007199254740992 := by
    rcases (by omega : d = 52 ∨ d = 53) with rfl | rfl
    · left; rfl
    · right; rfl
  have hdpos := Nat.two_pow_pos d
  rw [Nat.pow_add] at hmlo hmhi
  have hlow1 : 4503599627370496 ≤ mag / 2 ^ d := (Nat.le_div_iff_mul_le hdpos).2 (by rw [Nat.mul_comm]; exact hmlo)
  have hlow2 : mag / 2 ^ d < 9007199254740992 := (Nat.div_lt_iff_lt_mul hdpos).2 (by rw [Nat.mul_comm]; exact hmhi)
  have hdm := Nat.div_add_mod mag (2 ^ d)
  have hrest := Nat.mod_lt mag hdpos
  -- what is kept
  have hcut := cut_at false mag d (by omega)
  generalize hmore : (decide (2 ^ d < 2 * (mag % 2 ^ d)) || (2 ^ d == 2 * (mag % 2 ^ d) && mag / 2 ^ d % 2 == 1)).toNat = more at hcut
  have hm01 : more ≤ 1 := by rw [← hmore]; exact Bool.toNat_le _
  have hm0 : more = 0 → 2 * (mag % 2 ^ d) ≤ 2 ^ d := by
    intro h0
    rw [h0] at hmore
    simp at hmore
    omega
  have hm1 : more = 1 → 2 ^ d ≤ 2 * (mag % 2 ^ d) := by
    intro h0
    rw [h0] at hmore
    simp at hmore
    omega
  have hkept : ((mag : Int) - ((mag / 2 ^ d + more) * 2 ^ d : Nat)).natAbs * 2 ≤ 2 ^ d := by
    have e : (mag / 2 ^ d + more) * 2 ^ d = 2 ^ d * (mag / 2 ^ d) + more * 2 ^ d := by rw [Nat.add_mul, Nat.mul_comm]
    rw [e]
    rcases (by omega : more = 0 ∨ more = 1) with h | h
    · have := hm0 h; rw [h]; omega
    · have := hm1 h; rw [h]; omega
  -- the word
  obtain ⟨kept, hkd⟩ : ∃ kept, mag / 2 ^ d + more = kept := ⟨_, rfl⟩
  rw [hkd] at hcut hkept
  have hk1 : 4503599627370496 ≤ kept := by omega
  have hk2 : kept ≤ 9007199254740992 := by omega
  have hz : ∃ E : Nat, (p + d + 1074).toNat = E ∧ (E : Int) = p + d + 1074 ∧ 120 ≤ E ∧ E ≤ 1925 := ⟨(p + d + 1074).toNat, rfl, by omega, by omega, by omega⟩
  obtain ⟨E, hE, hE1, hE2, hE3⟩ := hz
  clear hm0 hm1 hm01 hlow1 hlow2 hdm hrest hmlo hmhi hkd
  have hw : double.nearest false mag p = double.word false (E * 4503599627370496 + kept) := by
    unfold Format.nearest
    rw [if_neg (by omega)]
    simp only [fb_eq, lp_eq, binade_eq, inf_eq]
    have e1 : max (p + (mag.log2 : Int) - ((52 : Nat) : Int)) (-1074) = p + d := by omega
    rw [e1]
    have e2 : (p - (p + (d : Int))).toNat = 0 := by omega
    have e3 : (p + (d : Int) - p).toNat = d := by omega
    rw [e2, e3, Nat.shiftLeft_eq, Nat.pow_zero, Nat.mul_one, hcut]
    have e4 : (p + (d : Int) - -1074).toNat = E := by omega
    have e5 : E * 4503599627370496 + kept ≤ 9218868437227405312 := by omega
    rw [e4, Nat.min_eq_left e5]
  by_cases hk : kept < 9007199254740992
  · refine ⟨E, kept, d, hw, hk1, hk, by omega, by omega, by omega, by omega⟩
  · have hk' : kept = 9007199254740992 := by omega
    refine ⟨E + 1, 4503599627370496, d + 1, ?_, Nat.le_refl _, by omega, by omega, by omega, by omega, ?_⟩
    · have e : E * 4503599627370496 + kept = (E + 1) * 4503599627370496 + 4503599627370496 := by omega
      rw [hw, e]
    · have e : 4503599627370496 * 2 ^ (d + 1) = kept * 2 ^ d := by rw [hk', Nat.pow_succ]; omega
      rw [e]
      omega

/-- hi = x * h rounded; the rest is exact; hi and the rest add up to hi again. -/
theorem rounded (x h mx mh : Nat) (px ph : Int) (hx : Rep (double.read x) false mx px) (hh : Rep (double.read h) false mh ph) (b1 : 4503599627370496 ≤ mx) (b2 : mx < 9007199254740992)
    (b3 : 4503599627370496 ≤ mh) (b4 : mh < 9007199254740992) (hp1 : -1004 ≤ px + ph) (hp2 : px + ph ≤ 794) :
    ∃ hi lo e K : Nat, double.mul x h = some hi ∧ double.fma x h (hi ^^^ 9223372036854775808) = some lo ∧ double.mul x 0 = some 0 ∧ double.add lo 0 = some lo ∧ double.add hi lo = some hi ∧
      hi = e * 4503599627370496 + K ∧ 4503599627370496 ≤ K ∧ K < 9007199254740992 ∧ 120 ≤ e ∧ e ≤ 1930 := by
  have m1 : 20282409603651670423947251286016 ≤ mx * mh := by
    have := Nat.mul_le_mul b1 b3
    omega
  have m2 : mx * mh < 81129638414606681695789005144064 := by
    have := Nat.mul_lt_mul'' b2 b4
    omega
  obtain ⟨e, K, u, hw, k1, k2, e1, e2, hu, hδ⟩ := nearest_prod (mx * mh) (px + ph) m1 m2 hp1 hp2
  obtain ⟨pr, hpr, rpr⟩ := product_rep hx hh
  have hmul : double.mul x h = some (double.nearest false (mx * mh) (px + ph)) := by
    unfold Format.mul
    rw [hpr, Option.map_some, write_rep rpr (by omega)]
    rfl
  have hrd := read_word false e K (by omega) k1 k2
  have hrdn := read_word true e K (by omega) k1 k2
  -- hi as a number at place px + ph
  have rhi : ∀ s, Rep (.number s K (-1074 + (e : Int))) s (K * 2 ^ u) (px + ph) := fun s => by
    refine rep_mk (px + ph) (by omega) (Int.le_refl _) ?_
    rw [show (px + ph - (px + ph)).toNat = 0 by omega, show (-1074 + (e : Int) - (px + ph)).toNat = u by omega, Nat.pow_zero, Nat.mul_one]
  have hneg : (double.nearest false (mx * mh) (px + ph)) ^^^ 9223372036854775808 = double.word true (e * 4503599627370496 + K) := by
    rw [hw, neg_word false _ (by omega)]; rfl
  have hx0 : double.mul x 0 = some 0 := by
    have r0 : Rep (double.read 0) false 0 0 := rep_word0 false 0
    obtain ⟨q, hq, rq⟩ := product_rep hx r0
    unfold Format.mul
    rw [hq, Option.map_some, write_rep_zero (by simpa using rq)]
    rfl
  -- the rest
  generalize hD : ((mx * mh : Nat) : Int) - ((K * 2 ^ u : Nat) : Int) = δ at hδ
  have hT : sg false (mx * mh) + sg true (K * 2 ^ u) = δ := by simp only [sg, if_true, Bool.false_eq_true, if_false]; omega
  have hfma : double.fma x h (double.nearest false (mx * mh) (px + ph) ^^^ 9223372036854775808) = (Datum.sum pr (.number true K (-1074 + (e : Int)))).map double.write := by
    unfold Format.fma
    rw [hpr, hneg, hrdn]
    rfl
  have rpr' : Rep pr false (mx * mh) (px + ph) := rpr
  by_cases h0 : δ = 0
  · -- nothing is left
    have hlo := write_sum_zero rpr' (rhi true) (by rw [hT, h0])
    refine ⟨_, 0, e, K, hmul, by rw [hfma, hlo]; rfl, hx0, ?_, ?_, by rw [hw]; rfl, k1, k2, e1, e2⟩
    · exact write_sum_zero (rep_word0 false 0) (rep_word0 false 0) rfl
    · have := write_sum (rhi false) (rep_word0 false (px + ph)) (mx * mh : Nat) (by simp only [sg, Bool.false_eq_true, if_false]; omega) (by omega)
      unfold Format.add
      rw [hw, hrd, show (0 : Nat) = double.word false 0 from rfl, this]
      rw [show decide (((mx * mh : Nat) : Int) < 0) = false from by simp; omega, Int.natAbs_natCast, ← hw]
  · have hlo := write_sum rpr' (rhi true) δ hT h0
    have hL : (δ.natAbs.log2 : Int) ≤ 52 := by
      have := (Nat.log2_lt (n := δ.natAbs) (k := 53) (by omega)).2 (by omega)
      omega
    have rlo := rep_exact (decide (δ < 0)) δ.natAbs (px + ph) (by omega) (by omega) (by omega) (by omega)
    have hsg : sg (decide (δ < 0)) δ.natAbs = δ := by
      unfold sg
      by_cases hs : δ < 0
      · simp [hs]; omega
      · simp [hs]; omega
    refine ⟨_, double.nearest (decide (δ < 0)) δ.natAbs (px + ph), e, K, hmul, by rw [hfma, hlo], hx0, ?_, ?_, by rw [hw]; rfl, k1, k2, e1, e2⟩
    · exact write_sum rlo (rep_word0 false (px + ph)) δ (by rw [hsg]; simp [sg]) h0
    · have := write_sum (rhi false) rlo (mx * mh : Nat) (by rw [hsg]; simp only [sg, Bool.false_eq_true, if_false]; omega) (by omega)
      unfold Format.add
      rw [hw, hrd, this]
      rw [show decide (((mx * mh : Nat) : Int) < 0) = false from by simp; omega, Int.natAbs_natCast, ← hw]
end Go.Proofs.Ybulkcqei.Fl
