import Derived.Test.YbulkcqceFmtLaw
import Derived.Laws.Tables
import Derived.Deep.Heap
namespace Go.Proofs.YbulkcqceFmt
open Go.RowKit Go.Extern.Stop Go.Stop Go.Extern
set_option linter.unusedVariables false

/-- A struct literal whose cells are known under a name. -/
theorem wpList_build_is {P : Program} {ops : Array Oper} {rest : List Oper} {o : Oper} {a : Act} {w : World} {Q : Exit → Act → World → Prop} (hg : o.guard = none) (t : TypeId) (parts : Array (Nat × Operand)) (ho : o.op = .build t parts)
    (vs : List (Nat × Value)) (hv : parts.toList.map (fun ix => (ix.1, a.eval ix.2)) = vs) (cells : Array Value) (hb : P.built t vs = some cells)
    (h : wpList P ops Q rest (a.put o.dst (.agg cells)) w) : wpList P ops Q (o :: rest) a w := by
  have hv' : (parts.map fun (i, x) => (i, a.eval x)).toList = vs := by rw [← hv]; simp
  refine wpList_build hg t parts ho (by rw [hv', hb]; rfl) ?_
  rw [hv', hb]
  exact h

/-- The peer's cells: the three limits, the remote size 0. -/
theorem peer_built (ms me mr : Int) : ∃ CS : Array Value, Ybaf.prog.built 67 [(0, .agg #[.int .i64 ms, .int .i64 me, .int .i64 mr])] = some CS ∧
    CS[0]? = some (.int .i64 ms) ∧ CS[1]? = some (.int .i64 me) ∧ CS[2]? = some (.int .i64 mr) ∧ CS[76]? = some (.int .i64 0) := by
  obtain ⟨CS, h⟩ := Option.isSome_iff_exists.1 (show (Ybaf.prog.built 67 [(0, .agg #[.int .i64 ms, .int .i64 me, .int .i64 mr])]).isSome = true from by kernel_rfl)
  have e0 : (Ybaf.prog.built 67 [(0, .agg #[.int .i64 ms, .int .i64 me, .int .i64 mr])]).bind (·[0]?) = some (.int .i64 ms) := by kernel_rfl
  have e1 : (Ybaf.prog.built 67 [(0, .agg #[.int .i64 ms, .int .i64 me, .int .i64 mr])]).bind (·[1]?) = some (.int .i64 me) := by kernel_rfl
  have e2 : (Ybaf.prog.built 67 [(0, .agg #[.int .i64 ms, .int .i64 me, .int .i64 mr])]).bind (·[2]?) = some (.int .i64 mr) := by kernel_rfl
  have e3 : (Ybaf.prog.built 67 [(0, .agg #[.int .i64 ms, .int .i64 me, .int .i64 mr])]).bind (·[76]?) = some (.int .i64 0) := by kernel_rfl
  rw [h] at e0 e1 e2 e3
  exact ⟨CS, h, e0, e1, e2, e3⟩

/-- The two blocks that the law lays ahead of the call. -/
def W2 (w : World) (CS : Array Value) (ms me mr : Int) : World := (w.alloc (.cells #[.int .i64 ms, .int .i64 me, .int .i64 mr] 23)).alloc (.cells CS 67)

section
variable {w : World} {CS : Array Value} {ms me mr : Int}
theorem W2_size : (W2 w CS ms me mr).heap.size = w.heap.size + 2 := by simp [W2]
theorem W2_below : Below w.heap.size w (W2 w CS ms me mr) := ((Below.refl _ _).alloc (Nat.le_refl _) _).alloc (by simp) _
theorem W2_p : (W2 w CS ms me mr).heap[w.heap.size + 1]? = some (.cells CS 67 (0, 0)) := by
  have h := Go.Deep.blk_alloc_new (w.alloc (.cells #[.int .i64 ms, .int .i64 me, .int .i64 mr] 23)) (.cells CS 67)
  rw [World.size_alloc] at h
  exact h
theorem W2_l : (W2 w CS ms me mr).heap[w.heap.size]? = some (.cells #[.int .i64 ms, .int .i64 me, .int .i64 mr] 23 (0, 0)) :=
  (Below.heap_alloc _ _ _ (by simp)).trans (Go.Deep.blk_alloc_new _ _)
theorem W2_cell (k : Nat) (v : Value) (h : CS[k]? = some v) : (W2 w CS ms me mr).cell? ⟨w.heap.size + 1, k, none⟩ = some v := by simp [World.cell?, W2_p, h]
theorem W2_free (k : Nat) : (W2 w CS ms me mr).frozen? ⟨w.heap.size + 1, k, none⟩ = false := by simp [World.frozen?, W2_p]
end

/-- What the world behind setRemote holds. -/
structure Aft (w w3 : World) (n ms me mr : Int) : Prop where
  c76 : w3.cell? ⟨w.heap.size + 1, 76, none⟩ = some (.int .i64 n)
  c0 : w3.cell? ⟨w.heap.size + 1, 0, none⟩ = some (.int .i64 ms)
  c1 : w3.cell? ⟨w.heap.size + 1, 1, none⟩ = some (.int .i64 me)
  c2 : w3.cell? ⟨w.heap.size + 1, 2, none⟩ = some (.int .i64 mr)
  l0 : w3.cell? ⟨w.heap.size, 0, none⟩ = some (.int .i64 ms)
  l1 : w3.cell? ⟨w.heap.size, 1, none⟩ = some (.int .i64 me)
  l2 : w3.cell? ⟨w.heap.size, 2, none⟩ = some (.int .i64 mr)
  bel : Below w.heap.size w w3

theorem Aft.mk' {w w3 : World} {CS : Array Value} {n ms me mr : Int} (e0 : CS[0]? = some (.int .i64 ms)) (e1 : CS[1]? = some (.int .i64 me)) (e2 : CS[2]? = some (.int .i64 mr)) (e76 : CS[76]? = some (.int .i64 0))
    (hb : Below (W2 w CS ms me mr).heap.size ((W2 w CS ms me mr).setCell ⟨w.heap.size + 1, 76, none⟩ (.int .i64 n)) w3) : Aft w w3 n ms me mr := by
  have hz : (W2 w CS ms me mr).heap.size = w.heap.size + 2 := W2_size
  have hl : ((W2 w CS ms me mr).setCell ⟨w.heap.size + 1, 76, none⟩ (.int .i64 n)).heap[w.heap.size]? = some (.cells #[.int .i64 ms, .int .i64 me, .int .i64 mr] 23 (0, 0)) := (Below.heap_setCell _ _ _ _ (by simp)).trans W2_l
  have hp : ∀ k v, k ≠ 76 → CS[k]? = some v → w3.cell? ⟨w.heap.size + 1, k, none⟩ = some v := fun k v hk h =>
    (hb.cell (p := ⟨w.heap.size + 1, k, none⟩) (by rw [hz]; simp)).trans ((World.cell?_setCell_other _ ⟨w.heap.size + 1, 76, none⟩ ⟨w.heap.size + 1, k, none⟩ _ (by intro e; injection e with _ e2; exact hk e2.symm)).trans (W2_cell k v h))
  have hL : ∀ k v, (#[.int .i64 ms, .int .i64 me, .int .i64 mr] : Array Value)[k]? = some v → w3.cell? ⟨w.heap.size, k, none⟩ = some v := fun k v h =>
    (hb.cell (p := ⟨w.heap.size, k, none⟩) (by rw [hz]; simp)).trans (by simp [World.cell?, hl, h])
  refine ⟨?_, hp 0 _ (by decide) e0, hp 1 _ (by decide) e1, hp 2 _ (by decide) e2, hL 0 _ rfl, hL 1 _ rfl, hL 2 _ rfl, ?_⟩
  · exact (hb.cell (p := ⟨w.heap.size + 1, 76, none⟩) (by rw [hz]; simp)).trans (World.cell?_setCell_same _ _ _ (W2_cell 76 _ e76))
  · exact (W2_below.setCell (by simp) _).trans (hb.mono (by rw [hz]; omega))

theorem keptW2 {w : World} {CS : Array Value} {ms me mr : Int} {a : Addr} {u : Value} (h : w.cell? a = some u) : (W2 w CS ms me mr).cell? a = some u := cell_later W2_below h

set_option maxHeartbeats 1000000 in
theorem law_low (F : Interp) (n mr me ms : Int) (a0 a1 : Addr) (s0 s1 : ByteArray) (k0 k1 : Array Value) (t0 t1 : TypeId) (w : World) (hF : F.answers w.tape)
    (hg0 : w.cell? ⟨0, 0, none⟩ = some (.iface 91 (.pointer (some a0)))) (hg1 : w.cell? ⟨1, 0, none⟩ = some (.iface 91 (.pointer (some a1))))
    (hs0 : w.cell? a0 = some (.string s0)) (hs1 : w.cell? a1 = some (.string s1)) (hne : a0 ≠ a1)
    (hb0 : w.heap[a0.block]? = some (.cells k0 t0 (0, 0))) (hb1 : w.heap[a1.block]? = some (.cells k1 t1 (0, 0))) (hlt : n < mr) :
    Calls Ybaf.prog 3 #[.int .i64 n, .int .i64 mr, .int .i64 me, .int .i64 ms] w fun e w' => e = .returned (.bool true) ∧ Below w.heap.size w w' := by
  obtain ⟨CS, hbt, e0, e1, e2, e76⟩ := peer_built ms me mr
  have HBT : Hid (Ybaf.prog.built 67 [(0, .agg #[.int .i64 ms, .int .i64 me, .int .i64 mr])] = some CS) := hbt
  clear hbt
  have z0 := block_lt_of_cell hg0
  have z1 := block_lt_of_cell hg1
  have za0 := block_lt_of_cell hs0
  have za1 := block_lt_of_cell hs1
  simp only at z0 z1
  go_enter Ybaf.func3, Ybaf.ntmps3
  go_wp2_with (refine wpList_build_is rfl 67 #[(0, .tmp 19)] rfl [(0, .agg #[.int .i64 ms, .int .i64 me, .int .i64 mr])] rfl CS HBT.out ?_)
  refine (set_low F (w.heap.size + 1) n ms me mr (.int .i64 0) a0 s0 (W2 w CS ms me mr) (by rw [show (W2 w CS ms me mr).tape = w.tape from rfl]; exact hF) (keptW2 hg0) (keptW2 hs0) (by omega) (by omega) (W2_cell 0 _ e0) (W2_cell 1 _ e1) (W2_cell 2 _ e2) (W2_cell 76 _ e76) (W2_free 76) hlt).mono ?_
  rintro e w3 ⟨q, rfl, hq, hb3⟩
  have A := Aft.mk' e0 e1 e2 e76 hb3
  clear hb3 HBT e0 e1 e2 e76
  obtain ⟨c76, c0, c1, c2, l0, l1, l2, bel⟩ := A
  have g0 : w3.cell? ⟨0, 0, none⟩ = _ := cell_later bel hg0
  have g1 : w3.cell? ⟨1, 0, none⟩ = _ := cell_later bel hg1
  have b0 : w3.heap[a0.block]? = _ := (bel.block _ za0).trans hb0
  have b1 : w3.heap[a1.block]? = _ := (bel.block _ za1).trans hb1
  clear hg0 hg1 hs0 hs1 hb0 hb1 hF
  go_wp2
  go_quiet (fail)
  go_wp2_with fail
  all_goals
    refine (is_wrap_same q 0 a0 (w3.drewN nq) (by exact hq)).mono ?_
    rintro e w4 ⟨rfl, rfl⟩
    go_wp2_with fail
    refine (is_wrap_other q 0 a1 a0 k0 k1 t0 t1 _ (by exact hq) hne (by exact b0) (by exact b1)).mono ?_
    rintro e w5 ⟨rfl, rfl⟩
    go_wp2
    go_ret
    exact ⟨rfl, below_drewN bel _⟩
set_option maxHeartbeats 1000000 in
theorem law_high (F : Interp) (n mr me ms : Int) (a0 a1 : Addr) (s0 s1 : ByteArray) (k0 k1 : Array Value) (t0 t1 : TypeId) (w : World) (hF : F.answers w.tape)
    (hg0 : w.cell? ⟨0, 0, none⟩ = some (.iface 91 (.pointer (some a0)))) (hg1 : w.cell? ⟨1, 0, none⟩ = some (.iface 91 (.pointer (some a1))))
    (hs0 : w.cell? a0 = some (.string s0)) (hs1 : w.cell? a1 = some (.string s1)) (hne : a0 ≠ a1)
    (hb0 : w.heap[a0.block]? = some (.cells k0 t0 (0, 0))) (hb1 : w.heap[a1.block]? = some (.cells k1 t1 (0, 0))) (hge : ¬ n < mr) (h0 : 0 < me) (hgt : me < n) :
    Calls Ybaf.prog 3 #[.int .i64 n, .int .i64 mr, .int .i64 me, .int .i64 ms] w fun e w' => e = .returned (.bool true) ∧ Below w.heap.size w w' := by
  obtain ⟨CS, hbt, e0, e1, e2, e76⟩ := peer_built ms me mr
  have HBT : Hid (Ybaf.prog.built 67 [(0, .agg #[.int .i64 ms, .int .i64 me, .int .i64 mr])] = some CS) := hbt
  clear hbt
  have z0 := block_lt_of_cell hg0
  have z1 := block_lt_of_cell hg1
  have za0 := block_lt_of_cell hs0
  have za1 := block_lt_of_cell hs1
  simp only at z0 z1
  go_enter Ybaf.func3, Ybaf.ntmps3
  go_wp2_with (refine wpList_build_is rfl 67 #[(0, .tmp 19)] rfl [(0, .agg #[.int .i64 ms, .int .i64 me, .int .i64 mr])] rfl CS HBT.out ?_)
  refine (set_high F (w.heap.size + 1) n ms me mr (.int .i64 0) a1 s1 (W2 w CS ms me mr) (by rw [show (W2 w CS ms me mr).tape = w.tape from rfl]; exact hF) (keptW2 hg1) (keptW2 hs1) (by omega) (by omega) (W2_cell 0 _ e0) (W2_cell 1 _ e1) (W2_cell 2 _ e2) (W2_cell 76 _ e76) (W2_free 76) (by omega) h0 hgt).mono ?_
  rintro e w3 ⟨q, rfl, hq, hb3⟩
  have A := Aft.mk' e0 e1 e2 e76 hb3
  clear hb3 HBT e0 e1 e2 e76
  obtain ⟨c76, c0, c1, c2, l0, l1, l2, bel⟩ := A
  have g0 : w3.cell? ⟨0, 0, none⟩ = _ := cell_later bel hg0
  have g1 : w3.cell? ⟨1, 0, none⟩ = _ := cell_later bel hg1
  have b0 : w3.heap[a0.block]? = _ := (bel.block _ za0).trans hb0
  have b1 : w3.heap[a1.block]? = _ := (bel.block _ za1).trans hb1
  clear hg0 hg1 hs0 hs1 hb0 hb1 hF
  go_wp2
  go_quiet (fail)
  go_wp2_with fail
  all_goals
    refine (is_wrap_same q 0 a1 (w3.drewN nq) (by exact hq)).mono ?_
    rintro e w4 ⟨rfl, rfl⟩
    go_wp2_with fail
    refine (is_wrap_other q 0 a0 a1 k1 k0 t1 t0 _ (by exact hq) (Ne.symm hne) (by exact b1) (by exact b0)).mono ?_
    rintro e w5 ⟨rfl, rfl⟩
    go_wp2
    go_ret
    exact ⟨rfl, below_drewN bel _⟩

set_option maxHeartbeats 1000000 in
theorem law_ok (n mr me ms : Int) (w : World) (hge : ¬ n < mr) (hno : ¬ 0 < me ∨ ¬ me < n) :
    Calls Ybaf.prog 3 #[.int .i64 n, .int .i64 mr, .int .i64 me, .int .i64 ms] w fun e w' => e = .returned (.bool true) ∧ Below w.heap.size w w' := by
  obtain ⟨CS, hbt, e0, e1, e2, e76⟩ := peer_built ms me mr
  have HBT : Hid (Ybaf.prog.built 67 [(0, .agg #[.int .i64 ms, .int .i64 me, .int .i64 mr])] = some CS) := hbt
  clear hbt
  have HNO : Hid (¬ 0 < me ∨ ¬ me < n) := hno
  clear hno
  go_enter Ybaf.func3, Ybaf.ntmps3
  go_wp2_with (refine wpList_build_is rfl 67 #[(0, .tmp 19)] rfl [(0, .agg #[.int .i64 ms, .int .i64 me, .int .i64 mr])] rfl CS HBT.out ?_)
  refine (set_ok (w.heap.size + 1) n ms me mr (.int .i64 0) (W2 w CS ms me mr) (W2_cell 0 _ e0) (W2_cell 1 _ e1) (W2_cell 2 _ e2) (W2_cell 76 _ e76) (W2_free 76) (by omega) (by have := HNO.out; omega)).mono ?_
  rintro e w3 ⟨rfl, hb3⟩
  have A := Aft.mk' e0 e1 e2 e76 hb3
  clear hb3 HBT e0 e1 e2 e76
  obtain ⟨c76, c0, c1, c2, l0, l1, l2, bel⟩ := A
  go_wp2
  go_quiet (fail)
  by_cases h0 : 0 < me
  · have h1 : ¬ me < n := by have := HNO.out; omega
    go_wp2
    go_ret
    exact ⟨rfl, below_drewN bel _⟩
  · go_wp2
    go_ret
    exact ⟨rfl, below_drewN bel _⟩

end Go.Proofs.YbulkcqceFmt
