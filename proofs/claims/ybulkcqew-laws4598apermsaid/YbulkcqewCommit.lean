import Derived.Test.YbulkcqewMap
namespace Go.Proofs.Ybulkcqew
open Go.RowKit
open Go.MuLone
set_option linter.unusedVariables false

theorem load8 (p k : Nat) (x : Int) (w : World) (hc : w.cell? ⟨p, k, none⟩ = some (.int .i64 x)) :
    Calls Yba.prog 8 #[.pointer (some ⟨p, k, none⟩)] w fun e w' => e = .returned (.int .i64 x) ∧ w' = w := by
  have h := load13 hc
  go_enter Yba.func8, Yba.ntmps8
  go_wp2
  go_ret
  exact ⟨rfl, rfl⟩

theorem store10 (p k : Nat) (x : Int) (u : Value) (w : World) (hc : w.cell? ⟨p, k, none⟩ = some u) (hz : w.frozen? ⟨p, k, none⟩ = false) :
    Calls Yba.prog 10 #[.pointer (some ⟨p, k, none⟩), .int .i64 x] w fun e w' => e = .returned (.tuple #[]) ∧ w' = w.setCell ⟨p, k, none⟩ (.int .i64 x) := by
  have h := store15 (y := x) hc hz
  go_enter Yba.func10, Yba.ntmps10
  go_wp2
  go_end0
  exact ⟨rfl, rfl⟩

theorem add14 (p k : Nat) (x y : Int) (w : World) (hc : w.cell? ⟨p, k, none⟩ = some (.int .i64 x)) (hz : w.frozen? ⟨p, k, none⟩ = false) (h1 : 0 ≤ x) (h2 : x ≤ 1000000) (h3 : 0 ≤ y) (h4 : y ≤ 1000000) :
    Calls Yba.prog 14 #[.pointer (some ⟨p, k, none⟩), .int .i64 y] w fun e w' => e = .returned (.int .i64 (x + y)) ∧ w' = w.setCell ⟨p, k, none⟩ (.int .i64 (x + y)) := by
  have hs : (Op.intArith .add .i64 x y).run Yba.prog w = .ok (.int .i64 (x + y)) w := by
    have : IntKind.i64.wrap (x + y) = x + y := by rw [IntKind.wrap_i64]; omega
    simp [Op.intArith, this]
  have h := add18 hc hz hs
  go_enter Yba.func14, Yba.ntmps14
  go_wp2
  go_ret
  exact ⟨rfl, rfl⟩

theorem committed7 (p bm : Nat) (nx bl st : Int) (S : Nat → Bool) (N n : Nat) (w : World) (hI : Ins w p bm nx bl st S N n) :
    Calls Yba.prog 7 #[.pointer (some ⟨p, 0, none⟩)] w fun e w' => e = .returned (.int .i64 bl) ∧ w' = w := by
  have h := load8 p 1 bl w hI.c1
  go_enter Yba.func7, Yba.ntmps7
  go_wp2_with fail
  refine h.mono ?_
  rintro e w' ⟨rfl, rfl⟩
  go_wp2
  go_ret
  exact ⟨rfl, rfl⟩

theorem take9 (p bm : Nat) (nx bl st : Int) (S : Nat → Bool) (N n : Nat) (w : World) (hI : Ins w p bm nx bl st S N n) (h1 : 0 ≤ nx) (h2 : nx ≤ 1000000) :
    Calls Yba.prog 9 #[.pointer (some ⟨p, 0, none⟩)] w fun e w' => e = .returned (.int .i64 nx) ∧ w' = w.setCell ⟨p, 0, none⟩ (.int .i64 (nx + 1)) := by
  have h := add14 p 0 nx 1 w hI.c0 (hI.fr 0) h1 h2 (by omega) (by omega)
  go_enter Yba.func9, Yba.ntmps9
  go_wp2_with fail
  refine h.mono ?_
  rintro e w' ⟨rfl, rfl⟩
  go_wp2
  go_ret
  exact ⟨by go_num, rfl⟩

theorem ins_made (w : World) (N : Nat) : Ins ((w.alloc (.map #[] 0)).alloc (.cells #[.int .i64 0, .int .i64 0, .int .i32 0, .int .u32 0, .map (some w.heap.size)] 41)) (w.heap.size + 1) w.heap.size 0 0 0 (fun _ => false) N 0 :=
  ⟨by
    have h := (MapKept.heap_alloc (w.alloc (.map #[] 0)) (.cells #[.int .i64 0, .int .i64 0, .int .i32 0, .int .u32 0, .map (some w.heap.size)] 41)).1
    have e : (w.alloc (.map #[] 0)).heap.size = w.heap.size + 1 := by simp
    rw [e] at h
    exact h, (mapIs_made w N).of_block (Below.heap_alloc _ _ _ (by simp))⟩

theorem newInserts5 (L N : Nat) (hL : L ≤ 100000) (w : World) :
    Calls Yba.prog 5 #[.int .i64 (L : Int)] w fun e w' => ∃ p bm, e = .returned (.pointer (some ⟨p, 0, none⟩)) ∧ Ins w' p bm L L 0 (fun _ => false) N 0 ∧ Below w.heap.size w w' ∧ w.heap.size ≤ p ∧ w.heap.size ≤ bm := by
  have hmm := @run_makeMap Yba.prog
  have h0 := ins_made w N
  have bel : Below w.heap.size w ((w.alloc (.map #[] 0)).alloc (.cells #[.int .i64 0, .int .i64 0, .int .i32 0, .int .u32 0, .map (some w.heap.size)] 41)) :=
    ((Below.refl w.heap.size w).alloc (Nat.le_refl _) _).alloc (by simp) _
  go_enter Yba.func5, Yba.ntmps5
  go_wp2_with fail
  generalize ((w.alloc (.map #[] 0)).alloc (.cells #[.int .i64 0, .int .i64 0, .int .i32 0, .int .u32 0, .map (some w.heap.size)] 41)) = w1 at h0 bel ⊢
  refine (store10 _ _ _ _ _ h0.c0 (h0.fr 0)).mono ?_
  rintro e w' ⟨rfl, rfl⟩
  have h1 := h0.set0 (L : Int)
  have bel1 := bel.setCell (p := ⟨w.heap.size + 1, 0, none⟩) (by simp) (.int .i64 (L : Int))
  generalize w1.setCell ⟨w.heap.size + 1, 0, none⟩ (.int .i64 (L : Int)) = w2 at h1 bel1 ⊢
  go_wp2_with fail
  refine (store10 _ _ _ _ _ h1.c1 (h1.fr 1)).mono ?_
  rintro e w' ⟨rfl, rfl⟩
  have h2 := h1.set1 (L : Int)
  have bel2 := bel1.setCell (p := ⟨w.heap.size + 1, 1, none⟩) (by simp) (.int .i64 (L : Int))
  go_wp2
  go_ret
  exact ⟨_, _, rfl, h2, bel2, by omega, by omega⟩

/-- What commit of the lowest key leaves. -/
def swept (S : Nat → Bool) (b j : Nat) : Nat → Bool := fun k => if b < k ∧ k < j then false else S k
theorem swept_start (S : Nat → Bool) (b : Nat) : ∀ k, S k = swept S b (b + 1) k := by
  intro k
  have : ¬ (b < k ∧ k < b + 1) := by omega
  simp [swept, this]
theorem swept_here (S : Nat → Bool) (b j : Nat) : swept S b j j = S j := by simp [swept]
theorem swept_next (S : Nat → Bool) (b j : Nat) (h : b < j) : ∀ k, upd (swept S b j) j false k = swept S b (j + 1) k := by
  intro k
  unfold upd swept
  by_cases e : k = j
  · subst e
    simp [h]
  · have : (b < k ∧ k < j + 1) ↔ (b < k ∧ k < j) := by omega
    simp [e, this]

set_option maxHeartbeats 1600000 in
theorem commit6_far (p bm key b N n : Nat) (nx : Int) (S : Nat → Bool) (w : World) (hI : Ins w p bm nx b 0 S N n) (hk : key < N) (hb : b < N) (hN : N ≤ 100000) (hn : n ≤ 100000) (hne : key ≠ b) :
    Calls Yba.prog 6 #[.pointer (some ⟨p, 0, none⟩), .int .i64 (key : Int)] w fun e w' => e = .returned (.tuple #[]) ∧ Only p bm w w' ∧ Ins w' p bm nx b 0 (upd S key true) N (n + 1) := by
  have g : ((key : Int) == (b : Int)) = false := by
    have : (key : Int) ≠ (b : Int) := by omega
    simpa using this
  have hI1 := hI.set2 1
  have o1 := (Only.refl p bm w).setCell 2 (.int .i32 1)
  go_enter_defers Yba.func6, Yba.ntmps6
  go_wp2_with fail
  refine (lock_free muLib ⟨p, 2, none⟩ _ hI.c2 (hI.fr 2)).mono ?_
  rintro e w' ⟨rfl, rfl⟩
  generalize w.setCell ⟨p, 2, none⟩ (.int .i32 1) = w1 at hI1 o1 ⊢
  go_wp2_with fail
  refine (load8 _ _ _ _ hI1.c1).mono ?_
  rintro e w' ⟨rfl, rfl⟩
  have c4 := hI1.c4
  go_wp2_with (at_mapUpdate; refine wpList_store _ rfl _ _ _ rfl bm n S N rfl hI1.hm key (by omega) hk hn rfl rfl ?_; intro w2 hm2 ht2)
  have hI2 := hI1.turn hm2 ht2
  have o2 := o1.turned ht2
  refine leaves_cons (f := 12) (args := #[.pointer (some ⟨p, 2, none⟩)]) (by simp) (by simp [go_sem]) ?_
  refine (unlock_deferred muLib ⟨p, 2, none⟩ .returning _ hI2.c2 (hI2.fr 2)).mono ?_
  rintro e u' w'' ⟨rfl, rfl, rfl⟩
  exact ⟨_, results_none rfl _ _ _, rfl, o2.setCell 2 _, hI2.set2 0⟩

set_option maxHeartbeats 1600000 in
theorem commit6_near (p bm b N n : Nat) (nx : Int) (S : Nat → Bool) (w : World) (hI : Ins w p bm nx b 0 S N n) (hb : b < N) (hN : N ≤ 100000) (hS : ∀ k, S k = true → k < N) :
    Calls Yba.prog 6 #[.pointer (some ⟨p, 0, none⟩), .int .i64 (b : Int)] w fun e w' => e = .returned (.tuple #[]) ∧ Only p bm w w' ∧ ∃ b', b < b' ∧ b' ≤ N ∧ (∀ i, b < i → i < b' → S i = true) ∧ S b' = false ∧ Ins w' p bm nx b' 0 (swept S b b') N n := by
  have hI1 := hI.set2 1
  have o1 := (Only.refl p bm w).setCell 2 (.int .i32 1)
  go_enter_defers Yba.func6, Yba.ntmps6
  go_wp2_with fail
  refine (lock_free muLib ⟨p, 2, none⟩ _ hI.c2 (hI.fr 2)).mono ?_
  rintro e w' ⟨rfl, rfl⟩
  generalize w.setCell ⟨p, 2, none⟩ (.int .i32 1) = w1 at hI1 o1 ⊢
  go_wp2_with fail
  refine (load8 _ _ _ _ hI1.c1).mono ?_
  rintro e w' ⟨rfl, rfl⟩
  go_wp2_with fail
  go_loopw [4] (fun i wr => ∃ j : Nat, b < j ∧ j ≤ N ∧ i = .int .i64 j ∧ (∀ i, b < i → i < j → S i = true) ∧ Ins wr p bm nx b 1 (swept S b j) N n ∧ Only p bm w wr) (fun i _ => N - (intOf i).toNat)
  case atStart => exact ⟨b + 1, by omega, by omega, by go_num, fun i h1 h2 => by omega, ⟨hI1.hp, hI1.hm.congr (swept_start S b)⟩, o1⟩
  case round =>
    obtain ⟨j, h1, h2, rfl, h3, hIr, hor⟩ := hrel
    have c4 := hIr.c4
    have hjb : j ≤ 100000 := by omega
    obtain ⟨u, hu⟩ : ∃ u, S j = u := ⟨_, rfl⟩
    have hv := swept_here S b j
    rw [hu] at hv
    cases u
    · go_wp2_with (at_lookup; refine wpList_look _ rfl _ _ rfl bm n (swept S b j) N rfl hIr.hm j hjb rfl ?_; rw [hv])
      refine (store10 _ _ _ _ _ hIr.c1 (hIr.fr 1)).mono ?_
      rintro e w' ⟨rfl, rfl⟩
      have hI2 := hIr.set1 (j : Int)
      have o2 := hor.setCell 1 (.int .i64 (j : Int))
      go_wp2
      refine leaves_cons (f := 12) (args := #[.pointer (some ⟨p, 2, none⟩)]) (by simp) (by simp [go_sem]) ?_
      refine (unlock_deferred muLib ⟨p, 2, none⟩ .returning _ hI2.c2 (hI2.fr 2)).mono ?_
      rintro e u' w'' ⟨rfl, rfl, rfl⟩
      exact ⟨_, results_none rfl _ _ _, rfl, o2.setCell 2 _, j, h1, h2, h3, hu, hI2.set2 0⟩
    · have hj : j < N := hS j hu
      have NXT : Hid (∀ i, b < i → i < j + 1 → S i = true) := by
        intro i a1 a2
        by_cases e : i = j
        · rw [e, hu]
        · exact h3 i a1 (by omega)
      clear hu
      go_wp2_with (first
        | (at_lookup; refine wpList_look _ rfl _ _ rfl bm n (swept S b j) N rfl hIr.hm j hjb rfl ?_; rw [hv])
        | (at_delete; refine wpList_drop _ rfl _ _ rfl bm n (swept S b j) N rfl hIr.hm j hjb hj rfl ?_; intro w2 hm2 ht2; have hI2 := hIr.turn (hm2.congr (swept_next S b j h1)) ht2; have o2 := hor.turned ht2))
      go_roundw
      case rel => exact ⟨j + 1, by omega, by omega, by go_num, NXT.out, hI2, o2⟩
      case measure => simp [intOf]; omega
end Go.Proofs.Ybulkcqew
