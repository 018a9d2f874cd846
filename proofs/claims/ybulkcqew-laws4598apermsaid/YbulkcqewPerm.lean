import Derived.Test.YbulkcqewScript
namespace Go.Proofs.Ybulkcqew
open Go.RowKit
set_option linter.unusedVariables false

theorem info3 : (Yba.prog.info? 3).map (fun i => (i.zero, i.size, i.bytes)) = some (some (.int .i64 0), 1, 8) := by kernel_rfl

/-! ### The plain side -/
/-- O runs through the numbers below n, each once. -/
structure PermF (O : Nat → Nat) (n : Nat) : Prop where
  lt : ∀ i, i < n → O i < n
  inj : ∀ i j, i < n → j < n → O i = O j → i = j
  sur : ∀ x, x < n → ∃ i, i < n ∧ O i = x

def swp (i j x : Nat) : Nat := if x = i then j else if x = j then i else x
theorem swp_lt {i j n : Nat} (hi : i < n) (hj : j < n) {x : Nat} (hx : x < n) : swp i j x < n := by
  unfold swp
  split
  · exact hj
  · split
    · exact hi
    · exact hx
theorem swp_swp (i j x : Nat) : swp i j (swp i j x) = x := by
  unfold swp
  by_cases a : x = i
  · subst a
    by_cases b : j = x <;> simp [b]
  · by_cases b : x = j
    · subst b
      simp [a]
    · simp [a, b]
theorem PermF.id (n : Nat) : PermF (fun x => x) n := ⟨fun i h => h, fun i j _ _ h => h, fun x h => ⟨x, h, rfl⟩⟩
theorem PermF.swap {O : Nat → Nat} {n : Nat} (h : PermF O n) {i j : Nat} (hi : i < n) (hj : j < n) : PermF (fun x => O (swp i j x)) n := by
  refine ⟨fun x hx => h.lt _ (swp_lt hi hj hx), fun x y hx hy e => ?_, fun y hy => ?_⟩
  · have := h.inj _ _ (swp_lt hi hj hx) (swp_lt hi hj hy) e
    rw [← swp_swp i j x, this, swp_swp]
  · obtain ⟨x, hx, e⟩ := h.sur y hy
    exact ⟨swp i j x, swp_lt hi hj hx, by show O _ = _; rw [swp_swp]; exact e⟩

/-- The done flags D, the bound b above L, and the set S of the keys that wait. -/
structure Pm (D : Nat → Bool) (b n L : Nat) (S : Nat → Bool) : Prop where
  sup : ∀ x, D x = true → x < n
  le : b ≤ n
  low : ∀ x, x < b → D x = true
  top : D b = false
  tie : ∀ k, S k = (decide (L + b < k) && D (k - L))
namespace Pm
variable {D : Nat → Bool} {b n L : Nat} {S : Nat → Bool}
theorem start (n L : Nat) : Pm (fun _ => false) 0 n L (fun _ => false) := ⟨fun x h => by simp at h, by omega, fun x h => by omega, rfl, fun k => by simp⟩
theorem below (h : Pm D b n L S) {k : Nat} (hk : S k = true) : k < L + n := by
  rw [h.tie k] at hk
  simp only [Bool.and_eq_true, decide_eq_true_eq] at hk
  have := h.sup _ hk.2
  omega
theorem far (h : Pm D b n L S) {x : Nat} (hx : x < n) (hd : D x = false) (hne : x ≠ b) : Pm (upd D x true) b n L (upd S (L + x) true) := by
  have hbx : b < x := by
    by_cases c : x < b
    · rw [h.low x c] at hd
      cases hd
    · omega
  refine ⟨fun y hy => ?_, h.le, fun y hy => ?_, ?_, fun k => ?_⟩
  · unfold upd at hy
    split at hy
    · omega
    · exact h.sup y hy
  · have : y ≠ x := by omega
    simp [upd, this, h.low y hy]
  · have : b ≠ x := by omega
    simp [upd, this, h.top]
  · by_cases e : k = L + x
    · subst e
      have : L + x - L = x := by omega
      simp [upd, hbx, this]
    · by_cases c : L + b < k
      · have : k - L ≠ x := by omega
        simp [upd, e, this, h.tie k]
      · simp [upd, e, h.tie k, c]
theorem near (h : Pm D b n L S) (hb : b < n) {b2 : Nat} (h1 : L + b < b2) (h2 : b2 ≤ L + n) (h3 : ∀ i, L + b < i → i < b2 → S i = true) (h4 : S b2 = false) : Pm (upd D b true) (b2 - L) n L (swept S (L + b) b2) := by
  refine ⟨fun y hy => ?_, by omega, fun y hy => ?_, ?_, fun k => ?_⟩
  · unfold upd at hy
    split at hy
    · omega
    · exact h.sup y hy
  · by_cases e : y = b
    · simp [upd, e]
    · by_cases c : y < b
      · simp [upd, e, h.low y c]
      · have := h3 (L + y) (by omega) (by omega)
        rw [h.tie] at this
        simp only [Bool.and_eq_true, decide_eq_true_eq] at this
        have e2 : L + y - L = y := by omega
        rw [e2] at this
        simp [upd, e, this.2]
  · have e : b2 - L ≠ b := by omega
    have := h.tie b2
    rw [h4] at this
    simp [h1] at this
    simp [upd, e, this]
  · have eb : L + (b2 - L) = b2 := by omega
    rw [eb]
    unfold swept
    by_cases c : L + b < k ∧ k < b2
    · have : ¬ b2 < k := by omega
      simp [c, this]
    · rw [if_neg c]
      by_cases d : k = b2
      · subst d
        simp [h4]
      · by_cases f : b2 < k
        · have a1 : L + b < k := by omega
          have a2 : k - L ≠ b := by omega
          simp [upd, h.tie k, f, a1, a2]
        · have a1 : ¬ L + b < k := by omega
          simp [h.tie k, f, a1]
/-- All done: nothing waits. -/
theorem full (h : Pm D b n L S) (hall : ∀ x, x < n → D x = true) : b = n ∧ ∀ k, S k = false := by
  have e : b = n := by
    have := h.le
    by_cases c : b < n
    · have a := hall b c
      rw [h.top] at a
      cases a
    · omega
  refine ⟨e, fun k => ?_⟩
  cases hk : S k
  · rfl
  · have a := h.below hk
    rw [h.tie k] at hk
    simp only [Bool.and_eq_true, decide_eq_true_eq] at hk
    omega
end Pm
theorem cnt_none {S : Nat → Bool} (h : ∀ k, S k = false) : ∀ N, cnt S N = 0
  | 0 => rfl
  | N + 1 => by rw [cnt, cnt_none h N, h N]; rfl
end Go.Proofs.Ybulkcqew
