import Derived.Test.YbulkcqewLocks
import Derived.Maps.OwnSet
import Derived.WalkKit
import Derived.WalkSpells
import Derived.WalkLawsBesides
import Derived.Deep.OwnRows
namespace Go.Proofs.Ybulkcqew
open Go.RowKit
open Go.Maps (Keyed)
set_option linter.unusedVariables false

/-! ### How many of the first N keys a set holds -/
def cnt (S : Nat → Bool) : Nat → Nat
  | 0 => 0
  | N + 1 => cnt S N + (S N).toNat

def upd (S : Nat → Bool) (k : Nat) (b : Bool) : Nat → Bool := fun j => if j = k then b else S j

theorem cnt_congr {S T : Nat → Bool} : ∀ N, (∀ j, j < N → S j = T j) → cnt S N = cnt T N
  | 0, _ => rfl
  | N + 1, h => by rw [cnt, cnt, cnt_congr N (fun j hj => h j (by omega)), h N (by omega)]

theorem cnt_upd (S : Nat → Bool) (k : Nat) (b : Bool) : ∀ N, k < N → cnt (upd S k b) N + (S k).toNat = cnt S N + b.toNat
  | 0, h => by omega
  | N + 1, h => by
    rw [cnt, cnt]
    by_cases e : k = N
    · subst e
      have : cnt (upd S k b) k = cnt S k := cnt_congr k fun j hj => by simp [upd, Nat.ne_of_lt hj]
      rw [this]
      simp [upd]
      omega
    · have ih := cnt_upd S k b N (by omega)
      have : upd S k b N = S N := by simp [upd, Ne.symm e]
      rw [this]
      omega

/-! ### The map -/
theorem keyed3 : Keyed Yba.prog 3 := Go.Maps.int_keyed Yba.underlying3
theorem zero4 (w : World) : (zeroValue 4).run Yba.prog w = .ok (.bool false) w := by kernel_rfl

/-- The key of a number. -/
def kl (k : Nat) : Lit := .int .i64 (k : Int)
theorem kl_wf (k : Nat) (h : k ≤ 100000) : (Lit.int .i64 (k : Int)).wf = true := by
  have e1 : IntKind.i64.min = -9223372036854775808 := rfl
  have e2 : IntKind.i64.max = 9223372036854775807 := rfl
  simp [Lit.wf, e1, e2]
  omega
theorem kl_key (k : Nat) (h : k ≤ 100000) : Go.keyOf Yba.prog 3 (.int .i64 (k : Int)) = some (kl k) := Go.Maps.keyOf_int_mk Yba.underlying3 (kl_wf k h)
theorem kl_inj {j k : Nat} (h : j ≠ k) : kl j ≠ kl k := by
  intro e
  injection e with _ e
  omega
theorem kl_lit (k : Nat) : WideAt.IsKeyLit (kl k) := trivial

/-- Block b is a map that holds true at just the keys of S, all below N. -/
def MapIs (w : World) (b n : Nat) (S : Nat → Bool) (N : Nat) : Prop :=
  ∃ D : DataW Unit, w.ownsMap Yba.prog 3 (plainElem Yba.prog 4) b n D ∧ (∀ k, Go.Maps.has D (kl k) = S k) ∧ (∀ k, D.atKey (kl k) (.lit (.bool false)) = .lit (.bool (S k))) ∧ Go.Maps.size D = cnt S N

theorem mapIs_made (w : World) (N : Nat) : MapIs (w.alloc (.map #[] 0)) w.heap.size 0 (fun _ => false) N := by
  refine ⟨_, World.ownsMap_made w Yba.prog 3 _, fun _ => rfl, fun _ => rfl, ?_⟩
  have : ∀ N, cnt (fun _ => false) N = 0 := by intro N; induction N with
    | zero => rfl
    | succ N ih => rw [cnt, ih]; rfl
  rw [this]
  rfl

theorem MapIs.of_block {w w' : World} {b n : Nat} {S : Nat → Bool} {N : Nat} (h : MapIs w b n S N) (e : w'.heap[b]? = w.heap[b]?) : MapIs w' b n S N := by
  obtain ⟨D, ⟨es, clock, hb, F, hs, hD⟩, r⟩ := h
  exact ⟨D, ⟨es, clock, e.trans hb, F, hs, hD⟩, r⟩
theorem MapIs.lt {w : World} {b n : Nat} {S : Nat → Bool} {N : Nat} (h : MapIs w b n S N) : b < w.heap.size := by
  obtain ⟨D, h, _⟩ := h
  exact h.lt
theorem MapIs.congr {w : World} {b n : Nat} {S T : Nat → Bool} {N : Nat} (h : MapIs w b n S N) (e : ∀ k, S k = T k) : MapIs w b n T N := by
  obtain rfl : S = T := funext e
  exact h

theorem elem_bool_inv {v : Value} {z : DataW Unit × List MemPlace} (h : plainElem Yba.prog 4 v = some z) : ∃ x, v = .bool x ∧ z = (.lit (.bool x), []) := by
  cases v <;> simp_all [plainElem, Yba.underlying4]

theorem MapIs.look {w : World} {b n : Nat} {S : Nat → Bool} {N : Nat} (h : MapIs w b n S N) (k : Nat) (hk : k ≤ 100000) :
    (Instr.lookup 39 (.map (some b)) (.int .i64 (k : Int)) false).run Yba.prog w = .ok (.bool (S k)) w := by
  obtain ⟨D, hown, h1, h2, h3⟩ := h
  obtain ⟨v, ps, hrun, hv⟩ := hown.lookup keyed3 Yba.underlying39 (zero4 w) (plainElem_bool Yba.underlying4 false) (kl_key k hk)
  obtain ⟨x, rfl, hx⟩ := elem_bool_inv hv
  rw [h2 k] at hx
  injection hx with hx _
  injection hx with hx
  injection hx with hx
  rw [hrun, hx]

theorem MapIs.store {w : World} {b n : Nat} {S : Nat → Bool} {N : Nat} (h : MapIs w b n S N) (k : Nat) (hk : k ≤ 100000) (hkN : k < N) (hn : n ≤ 100000) :
    ∃ w', (Instr.mapUpdate 39 (.map (some b)) (.int .i64 (k : Int)) (.bool true)).run Yba.prog w = .ok () w' ∧ MapIs w' b (n + 1) (upd S k true) N ∧ w.mapTurned w' b := by
  obtain ⟨D, hown, h1, h2, h3⟩ := h
  have ht := hown.tidy keyed3
  have hm := hown.isMap
  obtain ⟨w', hrun, hown', hturn⟩ := hown.store keyed3 Yba.underlying39 (by unfold maxLen; omega) (kl_key k hk) (plainElem_bool Yba.underlying4 true)
  refine ⟨w', hrun, ⟨_, hown', fun j => ?_, fun j => ?_, ?_⟩, hturn⟩
  · by_cases e : j = k
    · subst e
      rw [Go.Maps.has_put_same hm (kl_lit j)]
      simp [upd]
    · rw [Go.Maps.has_put_other (kl_inj e), h1 j]
      simp [upd, e]
  · by_cases e : j = k
    · subst e
      rw [Go.Maps.atKey_put_same hm (kl_lit j)]
      simp [upd]
    · rw [Go.Maps.atKey_put_other (kl_inj e), h2 j]
      simp [upd, e]
  · rw [Go.Maps.size_put ht, h1 k, h3]
    have := cnt_upd S k true N hkN
    cases hS : S k <;> simp [hS] at this ⊢ <;> omega

theorem MapIs.drop {w : World} {b n : Nat} {S : Nat → Bool} {N : Nat} (h : MapIs w b n S N) (k : Nat) (hk : k ≤ 100000) (hkN : k < N) (ty : TypeId) :
    ∃ w', (Builtin.delete_ #[39, 3] ty #[.map (some b), .int .i64 (k : Int)]).run Yba.prog w = .ok (.tuple #[]) w' ∧ MapIs w' b n (upd S k false) N ∧ w.mapTurned w' b := by
  obtain ⟨D, hown, h1, h2, h3⟩ := h
  have ht := hown.tidy keyed3
  obtain ⟨w', hrun, hown', hturn⟩ := hown.drop keyed3 Yba.underlying39 (kl_key k hk) ty
  refine ⟨w', hrun, ⟨_, hown', fun j => ?_, fun j => ?_, ?_⟩, hturn⟩
  · by_cases e : j = k
    · subst e
      rw [Go.Maps.has_del_same]
      simp [upd]
    · rw [Go.Maps.has_del_other (kl_inj e), h1 j]
      simp [upd, e]
  · by_cases e : j = k
    · subst e
      rw [Go.Maps.atKey_del_same]
      simp [upd]
    · rw [Go.Maps.atKey_del_other (kl_inj e), h2 j]
      simp [upd, e]
  · have a := Go.Maps.size_del (k := kl k) ht
    rw [h1 k, h3] at a
    have := cnt_upd S k false N hkN
    cases hS : S k <;> simp [hS] at this a ⊢ <;> omega

theorem MapIs.len {w : World} {b n : Nat} {S : Nat → Bool} {N : Nat} (h : MapIs w b n S N) (ty : TypeId) :
    (Builtin.len_ #[39] ty #[.map (some b)]).run Yba.prog w = .ok (.int .i64 (cnt S N : Nat)) w := by
  obtain ⟨D, hown, h1, h2, h3⟩ := h
  rw [hown.len Yba.underlying39 ty, h3]

section
variable (w : World) {ops : Array Oper} {rest : List Oper} {o : Oper} {a : Act} {Q : Exit → Act → World → Prop}
theorem wpList_look (hg : o.guard = none) (m x : Operand) (hop : o.op = Op.lookup 39 m x false) (b n : Nat) (S : Nat → Bool) (N : Nat) (hm : a.eval m = .map (some b)) (h : MapIs w b n S N)
    (k : Nat) (hk : k ≤ 100000) (hx : a.eval x = .int .i64 (k : Int)) (hK : wpList Yba.prog ops Q rest (a.put o.dst (.bool (S k))) w) : wpList Yba.prog ops Q (o :: rest) a w := by
  refine wpList_plain hg fun K' hK' => ?_
  have hrun := h.look k hk
  unfold Oper.wp
  simp [execOp, hop, hm, hx, hrun, Result.andThen]
  exact hK' _ _ hK
theorem wpList_store (hg : o.guard = none) (m x v : Operand) (hop : o.op = Op.mapUpdate 39 m x v) (b n : Nat) (S : Nat → Bool) (N : Nat) (hm : a.eval m = .map (some b)) (h : MapIs w b n S N)
    (k : Nat) (hk : k ≤ 100000) (hkN : k < N) (hn : n ≤ 100000) (hx : a.eval x = .int .i64 (k : Int)) (hv : a.eval v = .bool true)
    (hK : ∀ w', MapIs w' b (n + 1) (upd S k true) N → w.mapTurned w' b → wpList Yba.prog ops Q rest (a.put o.dst undef) w') : wpList Yba.prog ops Q (o :: rest) a w := by
  refine wpList_plain hg fun K' hK' => ?_
  obtain ⟨w', hrun, r1, r2⟩ := h.store k hk hkN hn
  unfold Oper.wp
  simp [execOp, hop, hm, hx, hv, hrun, Result.andThen]
  exact hK' _ _ (hK w' r1 r2)
theorem wpList_drop (hg : o.guard = none) (m x : Operand) (hop : o.op = Op.call { callee := Callee.builtin Builtin.delete, args := #[m, x], argTypes := #[39, 3] }) (b n : Nat) (S : Nat → Bool) (N : Nat) (hm : a.eval m = .map (some b)) (h : MapIs w b n S N)
    (k : Nat) (hk : k ≤ 100000) (hkN : k < N) (hx : a.eval x = .int .i64 (k : Int))
    (hK : ∀ w', MapIs w' b n (upd S k false) N → w.mapTurned w' b → wpList Yba.prog ops Q rest (a.put o.dst (.tuple #[])) w') : wpList Yba.prog ops Q (o :: rest) a w := by
  refine wpList_plain hg fun K' hK' => ?_
  obtain ⟨w', hrun, r1, r2⟩ := h.drop k hk hkN o.type
  unfold Oper.wp
  simp [execOp, hop, resolve, invoke, builtin, hm, hx, hrun, Result.andThen]
  exact hK' _ _ (hK w' r1 r2)
theorem wpList_len (hg : o.guard = none) (m : Operand) (hop : o.op = Op.call { callee := Callee.builtin Builtin.len, args := #[m], argTypes := #[39] }) (b n : Nat) (S : Nat → Bool) (N : Nat) (hm : a.eval m = .map (some b)) (h : MapIs w b n S N)
    (hK : wpList Yba.prog ops Q rest (a.put o.dst (.int .i64 (cnt S N : Nat))) w) : wpList Yba.prog ops Q (o :: rest) a w := by
  refine wpList_plain hg fun K' hK' => ?_
  unfold Oper.wp
  simp [execOp, hop, resolve, invoke, builtin, hm, h.len o.type, Result.andThen]
  exact hK' _ _ hK
end

/-! ### The struct -/
/-- Only the blocks p and b have turned. -/
structure Only (p b : Nat) (w w' : World) : Prop where
  os : w'.os = w.os
  tape : w'.tape = w.tape
  output : w'.output = w.output
  size : w'.heap.size = w.heap.size
  block : ∀ k, k ≠ p → k ≠ b → w'.heap[k]? = w.heap[k]?
namespace Only
variable {p b : Nat} {w w' w'' : World}
theorem refl (p b : Nat) (w : World) : Only p b w w := ⟨rfl, rfl, rfl, rfl, fun _ _ _ => rfl⟩
theorem trans (h : Only p b w w') (k : Only p b w' w'') : Only p b w w'' :=
  ⟨k.os.trans h.os, k.tape.trans h.tape, k.output.trans h.output, k.size.trans h.size, fun i a c => (k.block i a c).trans (h.block i a c)⟩
theorem setCell (h : Only p b w w') (k : Nat) (v : Value) : Only p b w (w'.setCell ⟨p, k, none⟩ v) :=
  h.trans ⟨rfl, rfl, rfl, by simp [World.setCell], fun i a _ => Below.heap_setCell _ _ _ _ a⟩
theorem turned (h : Only p b w w') (k : w'.mapTurned w'' b) : Only p b w w'' := by
  refine h.trans ?_
  obtain ⟨es, clock, es', clock', hb, rfl⟩ := k
  exact ⟨rfl, rfl, rfl, by simp [ChangeMaps.setBlock], fun i _ c => ChangeMaps.heap_setBlock_other hb _ (fun e => c e)⟩
theorem below (h : Only p b w w') {B : Nat} (hp : B ≤ p) (hb : B ≤ b) : Below B w w' :=
  ⟨h.os, h.tape, h.output, by rw [h.size]; exact Nat.le_refl _, fun k hk => h.block k (by omega) (by omega)⟩
end Only

/-- The inserts at block p: next, below, the lock's word, the map of done keys. -/
structure Ins (w : World) (p bm : Nat) (nx bl st : Int) (S : Nat → Bool) (N n : Nat) : Prop where
  hp : w.heap[p]? = some (.cells #[.int .i64 nx, .int .i64 bl, .int .i32 st, .int .u32 0, .map (some bm)] 41 (0, 0))
  hm : MapIs w bm n S N
namespace Ins
variable {w w' : World} {p bm : Nat} {nx bl st : Int} {S : Nat → Bool} {N n : Nat}
theorem c0 (h : Ins w p bm nx bl st S N n) : w.cell? ⟨p, 0, none⟩ = some (.int .i64 nx) := by simp [World.cell?, h.hp]
theorem c1 (h : Ins w p bm nx bl st S N n) : w.cell? ⟨p, 1, none⟩ = some (.int .i64 bl) := by simp [World.cell?, h.hp]
theorem c2 (h : Ins w p bm nx bl st S N n) : w.cell? ⟨p, 2, none⟩ = some (.int .i32 st) := by simp [World.cell?, h.hp]
theorem c4 (h : Ins w p bm nx bl st S N n) : w.cell? ⟨p, 4, none⟩ = some (.map (some bm)) := by simp [World.cell?, h.hp]
theorem fr (h : Ins w p bm nx bl st S N n) (k : Nat) : w.frozen? ⟨p, k, none⟩ = false := by simp [World.frozen?, h.hp]
theorem pt (h : Ins w p bm nx bl st S N n) : p < w.heap.size := by
  obtain ⟨hlt, _⟩ := Array.getElem?_eq_some_iff.1 h.hp
  exact hlt
theorem ne (h : Ins w p bm nx bl st S N n) : p ≠ bm := by
  rintro rfl
  obtain ⟨D, ⟨es, clock, hb, _⟩, _⟩ := h.hm
  have := h.hp.symm.trans hb
  simp at this
theorem of_blocks (h : Ins w p bm nx bl st S N n) (e1 : w'.heap[p]? = w.heap[p]?) (e2 : w'.heap[bm]? = w.heap[bm]?) : Ins w' p bm nx bl st S N n := ⟨e1.trans h.hp, h.hm.of_block e2⟩
theorem set_block {k : Nat} {v : Value} {c : Array Value} (h : w.heap[p]? = some (.cells c 41 (0, 0))) : (w.setCell ⟨p, k, none⟩ v).heap[p]? = some (.cells (c.setIfInBounds k v) 41 (0, 0)) := by
  simp [World.setCell, Array.getElem?_modify, h]
theorem set0 (h : Ins w p bm nx bl st S N n) (v : Int) : Ins (w.setCell ⟨p, 0, none⟩ (.int .i64 v)) p bm v bl st S N n :=
  ⟨set_block h.hp, h.hm.of_block (Below.heap_setCell _ _ _ _ (Ne.symm h.ne))⟩
theorem set1 (h : Ins w p bm nx bl st S N n) (v : Int) : Ins (w.setCell ⟨p, 1, none⟩ (.int .i64 v)) p bm nx v st S N n :=
  ⟨set_block h.hp, h.hm.of_block (Below.heap_setCell _ _ _ _ (Ne.symm h.ne))⟩
theorem set2 (h : Ins w p bm nx bl st S N n) (v : Int) : Ins (w.setCell ⟨p, 2, none⟩ (.int .i32 v)) p bm nx bl v S N n :=
  ⟨set_block h.hp, h.hm.of_block (Below.heap_setCell _ _ _ _ (Ne.symm h.ne))⟩
theorem turn (h : Ins w p bm nx bl st S N n) {T : Nat → Bool} {n' : Nat} (hm : MapIs w' bm n' T N) (ht : w.mapTurned w' bm) : Ins w' p bm nx bl st T N n' :=
  ⟨by
    obtain ⟨es, clock, es', clock', hb, rfl⟩ := ht
    rw [ChangeMaps.heap_setBlock_other hb _ (fun e => h.ne e)]
    exact h.hp, hm⟩
end Ins
end Go.Proofs.Ybulkcqew
