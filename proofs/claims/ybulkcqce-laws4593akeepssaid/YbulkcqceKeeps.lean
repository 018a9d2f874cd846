import Derived.Test.YbulkcqceModel
import Derived.Laws.CopyOwn
namespace Go.Proofs.Ybulkcqce
open Go.RowKit
set_option linter.unusedVariables false

/-- 'copy(dst, src)' of one whole row of the call's own into another, both of n cells: its run. -/
theorem run_copy_rows {P : Program} (w : World) (dT sT rT : TypeId) (elem : TypeId) (hu : P.underlying dT = some (.slice elem)) (hsz : (P.info? elem).map (·.size) = some 1)
    (g gs n dc sc : Nat) (t ts : TypeId) (fd fs : Nat → Value) (hg : w.rowIs g t n fd) (hgs : w.rowIs gs ts n fs) (h1 : ∀ i, (fs i).oneCell' = true) :
    ∃ w', (Builtin.copy_ #[dT, sT] rT #[.slice (some ⟨g, 0, none⟩) n dc, .slice (some ⟨gs, 0, none⟩) n sc]).run P w = .ok (.int .i64 n) w' ∧
      w'.rowIs g t n fs ∧ (∀ k, k ≠ g → w'.heap[k]? = w.heap[k]?) ∧ (∀ B, B ≤ g → Below B w w') := by
  obtain ⟨cur, hb, hn, hc⟩ := hg
  have hl : ((List.range n).map fs).length = n := by simp
  have hrun := run_copy_row (P := P) w dT sT rT elem g 0 n dc ⟨gs, 0, none⟩ n sc cur t ((List.range n).map fs) hu hsz hb (by simp) (by
    intro j v hj
    rw [Go.WideShapes.add_plain, Nat.zero_add]
    have hjn : j < n := by
      have := (List.getElem?_eq_some_iff.1 hj).1
      simpa using this
    rw [List.getElem?_map, List.getElem?_range hjn] at hj
    obtain rfl : fs j = v := by simpa using hj
    exact hgs.cell hjn) (by simp; omega) (by
    intro v hv
    simp at hv
    obtain ⟨i, _, rfl⟩ := hv
    exact h1 i)
  rw [hl] at hrun
  have e : cur.toList.take 0 ++ (List.range n).map fs ++ cur.toList.drop (0 + n) = (List.range n).map fs := by
    have : cur.toList.drop (0 + n) = [] := List.drop_eq_nil_of_le (by simp; omega)
    rw [this]; simp
  rw [e] at hrun
  refine ⟨_, hrun, ⟨((List.range n).map fs).toArray, ?_, by simp, ?_⟩, ?_, ?_⟩
  · exact setRow_heap w g _ _ t _ hb
  · intro i hi
    simp [hi]
  · exact fun k hk => setRow_other w g k _ hk
  · exact fun B hB => below_setRow (Below.refl _ _) hB _

theorem row_new (w : World) (z : Value) (n : Nat) (t : TypeId) : (w.alloc (.cells (madeCells #[z] n) t)).rowIs w.heap.size t n (fun _ => z) := World.rowIs_made w z n t

set_option maxHeartbeats 1000000 in
theorem keeps_any (w : World) (a0 a1 : Option Addr) (l0 l1 cp0 cp1 : Nat) (z0 z1 : Nat → Int) (r0 : Row .i64 w a0 l0 z0) (r1 : Row .u64 w a1 l1 z1) (hl0 : l0 ≤ 1024) (hl1 : l1 ≤ 1024)
    (b x0 x1 x2 : Int) (owned : Bool) (hb0 : 0 ≤ b) (hb1 : b ≤ 65535) (q0 : 0 ≤ x0 ∧ x0 ≤ 65535) (q1 : 0 ≤ x1 ∧ x1 ≤ 65535) (q2 : 0 ≤ x2 ∧ x2 ≤ 65535) :
    Calls Yba.prog 4 #[.slice a0 l0 cp0, .slice a1 l1 cp1, .int .u16 b, .agg #[.int .u16 x0, .int .u16 x1, .int .u16 x2], .bool owned] w fun e w' => e = .returned (.bool true) ∧ Below w.heap.size w w' := by
  go_enter Yba.func4, Yba.ntmps4
  go_wp2_with fail
  refine (build_any _ a0 a1 l0 l1 cp0 cp1 z0 z1 (r0.alloc _) (r1.alloc _) hl0 hl1).mono ?_
  rintro e w1 ⟨v, rfl, p, bc, bi, bh, n, C, I, rfl, hn, hn', hF, hB1⟩
  have HB1 : Hid (Below _ _ w1) := hB1
  have t0 : w1.cell? ⟨w.heap.size, 0, none⟩ = some (.int .u16 x0) := (hB1.cell (p := ⟨w.heap.size, 0, none⟩) (by simp)).trans (by simp [go_sem])
  have t1 : w1.cell? ⟨w.heap.size, 1, none⟩ = some (.int .u16 x1) := (hB1.cell (p := ⟨w.heap.size, 1, none⟩) (by simp)).trans (by simp [go_sem])
  have t2 : w1.cell? ⟨w.heap.size, 2, none⟩ = some (.int .u16 x2) := (hB1.cell (p := ⟨w.heap.size, 2, none⟩) (by simp)).trans (by simp [go_sem])
  obtain ⟨bn, hbn, lbn⟩ := nat_mod b n hb0 hn
  have c0 := hF.c0
  clear hB1 r0 r1
  go_wp2_with fail
  refine (bs_any w1 n x0 x1 x2 hn hn' q0 q1 q2).mono ?_
  rintro e w2 ⟨o0, o1, o2, l0', l1', l2', rfl, hB2⟩
  have hF2 := hF.below hB2
  have hB : Below w.heap.size w w2 := by
    have h1 := HB1.out
    refine (((Below.refl w.heap.size w).alloc (Nat.le_refl _) _).trans (h1.mono (by simp))).trans (hB2.mono ?_)
    have := h1.size; simp at this; omega
  have hs2 : w.heap.size < w2.heap.size := by
    have h1 := HB1.out.size
    have := hB2.size
    simp at *
    omega
  clear hB2 hF t0 t1 t2 q0 q1 q2 c0 HB1
  have mk1 := run_make_row' (P := Yba.prog) 22 2 (.int .i64 0) 8 Yba.underlying22 Yba.info2 rfl .i64 .i64 n (by omega) (by omega)
  have mk2 := run_make_row' (P := Yba.prog) 23 34 (.int .u64 0) 8 Yba.underlying23 Yba.info34 rfl .i64 .i64 n (by omega) (by omega)
  have hF3 := hF2.alloc (.cells #[.int .i64 o0, .int .i64 o1, .int .i64 o2] 31)
  have c0 := hF2.c0
  have c1 := hF2.c1
  have hpl := hF2.pt
  have R1 := row_new (w2.alloc (.cells #[.int .i64 o0, .int .i64 o1, .int .i64 o2] 31)) (.int .i64 0) n 2
  rw [World.size_alloc] at R1
  obtain ⟨w4, cp1, R4, H4, B4⟩ := run_copy_rows (P := Yba.prog) _ 22 22 3 2 Yba.underlying22 (by kernel_rfl) (w2.heap.size + 1) bc n n n 2 2 (fun _ => .int .i64 0) (fun i => .int .i64 (C i)) R1 (hF3.alloc (.cells (madeCells #[.int .i64 0] n) 2)).hc (fun _ => rfl)
  have hF4 : Fil w4 p bc bi bh n C I := hF2.of_blocks fun k hk => (H4 k (by omega)).trans ((Below.heap_alloc _ _ _ (by simp; omega)).trans (Below.heap_alloc _ _ _ hk))
  have sz4 : w2.heap.size + 2 ≤ w4.heap.size := by have := (B4 0 (by omega)).size; simpa using this
  have R5 := row_new w4 (.int .u64 0) n 34
  obtain ⟨w5, cp2, R6, H5, B5⟩ := run_copy_rows (P := Yba.prog) _ 23 23 3 34 Yba.underlying23 (by kernel_rfl) w4.heap.size bi n n n 34 34 (fun _ => .int .u64 0) (fun i => .int .u64 (I i)) R5 (hF4.alloc (.cells (madeCells #[.int .u64 0] n) 34)).hi (fun _ => rfl)
  have hF5 : Fil w5 p bc bi bh n C I := hF4.of_blocks fun k hk => (H5 k (by omega)).trans (Below.heap_alloc _ _ _ hk)
  have R7 : w5.rowIs (w2.heap.size + 1) 2 n (fun i => .int .i64 (C i)) := R4.of_block ((H5 _ (by omega)).trans (Below.heap_alloc _ _ _ (by omega)))
  have hB5 : Below w2.heap.size w2 w5 := ((((Below.refl _ _).alloc (Nat.le_refl _) _).alloc (by simp) _).trans (B4 _ (by omega))).trans (((Below.refl _ _).alloc (by omega) _).trans (B5 _ (by omega)))
  have cb5 : w5.heap[w2.heap.size]? = some (.cells #[.int .i64 o0, .int .i64 o1, .int .i64 o2] 31 (0, 0)) := by
    rw [H5 _ (by omega), Below.heap_alloc _ _ _ (by omega), H4 _ (by omega), Below.heap_alloc _ _ _ (by simp)]
    exact Go.Deep.blk_alloc_new _ _
  have u0 : w5.cell? ⟨w2.heap.size, 0, none⟩ = some (.int .i64 o0) := by simp [World.cell?, cb5]
  have u1 : w5.cell? ⟨w2.heap.size, 1, none⟩ = some (.int .i64 o1) := by simp [World.cell?, cb5]
  have u2 : w5.cell? ⟨w2.heap.size, 2, none⟩ = some (.int .i64 o2) := by simp [World.cell?, cb5]
  have c1 := hF4.c1
  have p4 := hF4.pt
  have HB5 : Hid (Below w2.heap.size w2 w5) := hB5
  have SZ : Hid (w2.heap.size + 2 ≤ w4.heap.size) := sz4
  clear R1 H4 B4 R5 H5 B5 cb5 hB5 hF3 R4 hF4 sz4
  go_wp2_with fail
  refine (conf_any _ p bc bi bh n C I hF5 bn o0 o1 o2 owned hn' lbn l0' l1' l2').mono ?_
  rintro e w6 ⟨rfl, hB6⟩
  have hF6 := hF5.below hB6
  have R8 := R7.of_block (hB6.block _ R7.lt)
  have R9 := R6.of_block (hB6.block _ R6.lt)
  have sz6 : w2.heap.size + 2 ≤ w6.heap.size := by have := SZ.out; have := R9.lt; omega
  have hBw : Below w.heap.size w w6 := hB.trans ((HB5.out.mono (by omega)).trans (hB6.mono (by have := HB5.out.size; omega)))
  have HS : Hid (w2.heap.size < w6.heap.size) := by show _ < _; omega
  clear hB HB5 hB6 SZ cp1 cp2 mk1 mk2 hF2 hF5 R7 R6 u0 u1 u2 c0 c1 p4 hpl
  go_wp2
  go_loopw [17] (fun i wr => ∃ k : Nat, k ≤ n ∧ i = .int .i64 k ∧ ∃ q, wr = w6.drewN q) (fun i _ => n - (intOf i).toNat)
  case atStart => exact ⟨0, by omega, rfl, 0, rfl⟩
  case round =>
    obtain ⟨k, hk, rfl, q, rfl⟩ := hrel
    by_cases hlt : k < n
    · have c0 := hF6.c0
      have c1 := hF6.c1
      have c2 := hF6.c2
      have k1 := hF6.cc hlt
      have k2 := hF6.ci hlt
      have k3 := hF6.ch hlt
      have k4 := R8.cell hlt
      have k5 := R9.cell hlt
      obtain ⟨y1, e1⟩ : ∃ x, C k = x := ⟨_, rfl⟩
      obtain ⟨y2, e2⟩ : ∃ x, I k = x := ⟨_, rfl⟩
      simp only [e1] at k1 k4
      simp only [e2] at k2 k5
      clear e1 e2
      have g1 : (k : Int) < (n : Int) := by omega
      go_wp2
      go_quiet (fail)
      go_wp2
      go_roundw
      case rel => exact ⟨k + 1, by omega, by go_num, _, rfl⟩
      case measure => simp [intOf]; omega
    · have hF7 := hF6.drewN q
      have hB7 := below_drewN hBw q
      generalize w6.drewN q = w7 at hF7 hB7 ⊢
      clear hF6 hBw R8 R9 HS sz6
      have hpl := hF7.pt
      go_wp2
      refine wp_loop_rounds 4 ?_
      rw [rounds_succ]
      go_wp2
      rw [rounds_succ]
      go_wp2
      rw [rounds_succ]
      go_wp2
      rw [rounds_succ]
      go_wp2_with fail
      refine (conf_any _ p bc bi bh n C I (hF7.alloc _) bn bn bn bn owned hn' lbn lbn lbn lbn).mono ?_
      rintro e w8 ⟨rfl, hB8⟩
      have ee : (owned || (hitB C I bn bn || (hitB C I bn bn || hitB C I bn bn))) = owned := by
        rw [hit_same C I bn bn rfl]; simp
      rw [ee]
      have hB9 : Below w.heap.size w w8 := (hB7.alloc (by have := hB7.size; omega) _).trans (hB8.mono (by have := hB7.size; simp; omega))
      clear hB8
      go_wp2
      go_ret
      exact ⟨by simp, hB9⟩
end Go.Proofs.Ybulkcqce
