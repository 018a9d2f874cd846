import Derived.Test.YbulkcqceRows
import Derived.WalkKit
import Derived.WalkSpells
import Derived.WalkLawsBesides
import Derived.Deep.QuietTactic
import Derived.BigQuiet
import Derived.Deep.OwnRows
namespace Go.Proofs.Ybulkcqce
open Go.RowKit
set_option linter.unusedVariables false

/-- The filter lies in w: the struct's block p, the three rows behind its fields. -/
structure Fil (w : World) (p bc bi bh n : Nat) (C I : Nat → Int) : Prop where
  hp : w.heap[p]? = some (.cells #[.slice (some ⟨bc, 0, none⟩) n n, .slice (some ⟨bi, 0, none⟩) n n, .slice (some ⟨bh, 0, none⟩) n n] 30 (0, 0))
  hc : w.rowIs bc 2 n (fun i => .int .i64 (C i))
  hi : w.rowIs bi 34 n (fun i => .int .u64 (I i))
  hh : w.rowIs bh 36 n (fun _ => .int .u32 0)

namespace Fil
variable {w : World} {p bc bi bh n : Nat} {C I : Nat → Int}
theorem c0 (h : Fil w p bc bi bh n C I) : w.cell? ⟨p, 0, none⟩ = some (.slice (some ⟨bc, 0, none⟩) n n) := by simp [World.cell?, h.hp]
theorem c1 (h : Fil w p bc bi bh n C I) : w.cell? ⟨p, 1, none⟩ = some (.slice (some ⟨bi, 0, none⟩) n n) := by simp [World.cell?, h.hp]
theorem c2 (h : Fil w p bc bi bh n C I) : w.cell? ⟨p, 2, none⟩ = some (.slice (some ⟨bh, 0, none⟩) n n) := by simp [World.cell?, h.hp]
theorem cc (h : Fil w p bc bi bh n C I) {i : Nat} (hi : i < n) : w.cell? ⟨bc, i, none⟩ = some (.int .i64 (C i)) := h.hc.cell hi
theorem ci (h : Fil w p bc bi bh n C I) {i : Nat} (hi : i < n) : w.cell? ⟨bi, i, none⟩ = some (.int .u64 (I i)) := h.hi.cell hi
theorem ch (h : Fil w p bc bi bh n C I) {i : Nat} (hi : i < n) : w.cell? ⟨bh, i, none⟩ = some (.int .u32 0) := h.hh.cell hi
theorem pt (h : Fil w p bc bi bh n C I) : p < w.heap.size := by
  obtain ⟨hlt, _⟩ := Array.getElem?_eq_some_iff.1 h.hp
  exact hlt
theorem of_blocks {w' : World} (h : Fil w p bc bi bh n C I) (e : ∀ k, k < w.heap.size → w'.heap[k]? = w.heap[k]?) : Fil w' p bc bi bh n C I :=
  ⟨(e _ h.pt).trans h.hp, h.hc.of_block (e _ h.hc.lt), h.hi.of_block (e _ h.hi.lt), h.hh.of_block (e _ h.hh.lt)⟩
theorem below {w' : World} (h : Fil w p bc bi bh n C I) (e : Below w.heap.size w w') : Fil w' p bc bi bh n C I := h.of_blocks e.block
theorem alloc (h : Fil w p bc bi bh n C I) (o : Obj) : Fil (w.alloc o) p bc bi bh n C I := h.of_blocks fun _ hk => Below.heap_alloc _ _ _ hk
theorem drewN (h : Fil w p bc bi bh n C I) (q : Nat) : Fil (w.drewN q) p bc bi bh n C I := h.of_blocks fun _ _ => rfl
end Fil

def hitB (C I : Nat → Int) (b o : Nat) : Bool := (o != b) && (C o == C b) && (I o == I b)

/-- one of three -/
def at3 (o0 o1 o2 : Nat) : Nat → Nat | 0 => o0 | 1 => o1 | _ => o2

theorem hit_same (C I : Nat → Int) (b o : Nat) (h : o = b) : hitB C I b o = false := by simp [hitB, h]
theorem hit_no1 (C I : Nat → Int) (b o : Nat) (h : C o ≠ C b) : hitB C I b o = false := by simp [hitB, h]
theorem hit_no2 (C I : Nat → Int) (b o : Nat) (h : I o ≠ I b) : hitB C I b o = false := by simp [hitB, h]
theorem hit_yes (C I : Nat → Int) (b o : Nat) (h1 : o ≠ b) (h2 : C o = C b) (h3 : I o = I b) : hitB C I b o = true := by simp [hitB, h1, h2, h3]

theorem ix0 (o0 o1 o2 : Nat) (w : World) : (Instr.index 31 (.agg #[.int .i64 o0, .int .i64 o1, .int .i64 o2]) (.int .i64 (0 : Nat))).run Yba.prog w = .ok (.int .i64 o0) w := by kernel_rfl
theorem ix1 (o0 o1 o2 : Nat) (w : World) : (Instr.index 31 (.agg #[.int .i64 o0, .int .i64 o1, .int .i64 o2]) (.int .i64 (1 : Nat))).run Yba.prog w = .ok (.int .i64 o1) w := by kernel_rfl
theorem ix2 (o0 o1 o2 : Nat) (w : World) : (Instr.index 31 (.agg #[.int .i64 o0, .int .i64 o1, .int .i64 o2]) (.int .i64 (2 : Nat))).run Yba.prog w = .ok (.int .i64 o2) w := by kernel_rfl

set_option maxHeartbeats 1000000 in
theorem conf_any (w : World) (p bc bi bh n : Nat) (C I : Nat → Int) (hF : Fil w p bc bi bh n C I) (b o0 o1 o2 : Nat) (owned : Bool) (hn : n ≤ 1024) (hb : b < n) (h0 : o0 < n) (h1 : o1 < n) (h2 : o2 < n) :
    Calls Yba.prog 7 #[.pointer (some ⟨p, 0, none⟩), .int .i64 b, .agg #[.int .i64 o0, .int .i64 o1, .int .i64 o2], .bool owned] w fun e w' =>
      e = .returned (.bool (owned || (hitB C I b o0 || (hitB C I b o1 || hitB C I b o2)))) ∧ Below w.heap.size w w' := by
  cases owned
  · have ix : ∀ (k : Nat) w, k < 3 → (Instr.index 31 (.agg #[.int .i64 o0, .int .i64 o1, .int .i64 o2]) (.int .i64 k)).run Yba.prog w = .ok (.int .i64 (at3 o0 o1 o2 k)) w := by
      intro k w hk
      rcases (by omega : k = 0 ∨ k = 1 ∨ k = 2) with rfl | rfl | rfl
      · exact ix0 o0 o1 o2 w
      · exact ix1 o0 o1 o2 w
      · exact ix2 o0 o1 o2 w
    have hat : ∀ k, at3 o0 o1 o2 k < n := by intro k; unfold at3; split <;> assumption
    have HB : Hid ((hitB C I b o0 || (hitB C I b o1 || hitB C I b o2)) = (hitB C I b (at3 o0 o1 o2 0) || (hitB C I b (at3 o0 o1 o2 1) || hitB C I b (at3 o0 o1 o2 2)))) := rfl
    go_enter Yba.func7, Yba.ntmps7
    go_wp2
    go_loopw [10, 13] (fun _ i wr => ∃ k : Nat, k ≤ 3 ∧ i = .int .i64 k ∧ (∀ j, j < k → hitB C I b (at3 o0 o1 o2 j) = false) ∧ Fil wr p bc bi bh n C I ∧ Below w.heap.size w wr)
      (fun _ i _ => 3 - (intOf i).toNat)
    case atStart => exact ⟨0, by omega, rfl, fun j hj => by omega, hF.alloc _, (Below.refl _ _).alloc (Nat.le_refl _) _⟩
    case round =>
      obtain ⟨k, hk, rfl, hz, hf, hbel⟩ := hrel
      by_cases hlt : k < 3
      · have ixk := fun w => ix k w hlt
        obtain ⟨o, ho⟩ : ∃ o, at3 o0 o1 o2 k = o := ⟨_, rfl⟩
        have hon : o < n := by rw [← ho]; exact hat k
        rw [ho] at ixk
        have c0 := hf.c0
        have c1 := hf.c1
        have k1 := hf.cc hon
        have k2 := hf.cc hb
        have k3 := hf.ci hon
        have k4 := hf.ci hb
        obtain ⟨x1, e1⟩ : ∃ x, C o = x := ⟨_, rfl⟩
        obtain ⟨x2, e2⟩ : ∃ x, C b = x := ⟨_, rfl⟩
        obtain ⟨x3, e3⟩ : ∃ x, I o = x := ⟨_, rfl⟩
        obtain ⟨x4, e4⟩ : ∃ x, I b = x := ⟨_, rfl⟩
        rw [e1] at k1
        rw [e2] at k2
        rw [e3] at k3
        rw [e4] at k4
        have HO : Hid (at3 o0 o1 o2 k = o) := ho
        have HE : Hid (C o = x1 ∧ C b = x2 ∧ I o = x3 ∧ I b = x4) := ⟨e1, e2, e3, e4⟩
        have HZ : Hid (∀ j, j < k → hitB C I b (at3 o0 o1 o2 j) = false) := hz
        clear ho e1 e2 e3 e4 hz ix hat hF h0 h1 h2
        have g0 : (0 : Int) ≤ (o : Int) := by omega
        have g1 : (o : Int) < (n : Int) := by omega
        have g2 : (0 : Int) ≤ (b : Int) := by omega
        have g3 : (b : Int) < (n : Int) := by omega
        have step : ∀ (wq : World), Fil wq p bc bi bh n C I → Below w.heap.size w wq → hitB C I b o = false →
            ∃ k' : Nat, k' ≤ 3 ∧ Value.int .i64 ((k : Int) + 1) = .int .i64 k' ∧ (∀ j, j < k' → hitB C I b (at3 o0 o1 o2 j) = false) ∧ Fil wq p bc bi bh n C I ∧ Below w.heap.size w wq :=
          fun wq q1 q2 q3 => ⟨k + 1, by omega, by go_num, fun j hj => by
            by_cases e : j = k
            · subst e; rw [HO.out]; exact q3
            · exact HZ.out j (by omega), q1, q2⟩
        have STEP : Hid _ := step
        clear step
        go_wp2
        by_cases e : (o : Int) = (b : Int)
        · have t1 : ((o : Int) != (b : Int)) = false := by simp [e]
          have HOB : Hid (o = b) := by show o = b; omega
          clear e
          go_quiet (fail)
          go_wp2
          go_roundw
          case rel => exact STEP.out _ (hf.drewN _) (below_drewN hbel _) (hit_same _ _ _ _ HOB.out)
          case measure => simp [intOf]; omega
        · have t1 : ((o : Int) != (b : Int)) = true := by simp [e]
          have HOB : Hid (o ≠ b) := by show o ≠ b; omega
          clear e
          by_cases e : x1 = x2
          · have t2 : (x1 == x2) = true := by simp [e]
            have HX : Hid (x1 = x2) := e
            clear e
            by_cases e : x3 = x4
            · have t3 : (x3 == x4) = true := by simp [e]
              have HY : Hid (x3 = x4) := e
              clear e
              go_quiet (fail)
              go_wp2
              go_ret
              refine ⟨?_, below_drewN hbel _⟩
              obtain ⟨e1, e2, e3, e4⟩ := HE.out
              have hh := hit_yes C I b o HOB.out (by rw [e1, e2]; exact HX.out) (by rw [e3, e4]; exact HY.out)
              rw [← HO.out] at hh
              rw [HB.out]
              rcases (by omega : k = 0 ∨ k = 1 ∨ k = 2) with rfl | rfl | rfl <;> simp [hh]
            · have t3 : (x3 == x4) = false := by simp [e]
              have HY : Hid (x3 ≠ x4) := e
              clear e
              go_quiet (fail)
              go_wp2
              go_roundw
              case rel =>
                obtain ⟨e1, e2, e3, e4⟩ := HE.out
                exact STEP.out _ (hf.drewN _) (below_drewN hbel _) (hit_no2 _ _ _ _ (by rw [e3, e4]; exact HY.out))
              case measure => simp [intOf]; omega
          · have t2 : (x1 == x2) = false := by simp [e]
            have HX : Hid (x1 ≠ x2) := e
            clear e
            go_quiet (fail)
            go_wp2
            go_roundw
            case rel =>
              obtain ⟨e1, e2, e3, e4⟩ := HE.out
              exact STEP.out _ (hf.drewN _) (below_drewN hbel _) (hit_no1 _ _ _ _ (by rw [e1, e2]; exact HX.out))
            case measure => simp [intOf]; omega
      · have HZ : Hid (∀ j, j < k → hitB C I b (at3 o0 o1 o2 j) = false) := hz
        clear hz ix
        go_wp2
        go_ret
        refine ⟨?_, hbel⟩
        have hz := HZ.out
        rw [HB.out, hz 0 (by omega), hz 1 (by omega), hz 2 (by omega)]
        rfl
  · go_enter Yba.func7, Yba.ntmps7
    go_wp2
    go_ret
    exact ⟨rfl, (Below.refl _ _).alloc (Nat.le_refl _) _⟩
end Go.Proofs.Ybulkcqce
