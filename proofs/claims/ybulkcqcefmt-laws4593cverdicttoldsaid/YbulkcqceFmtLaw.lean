import Derived.Test.YbulkcqceFmtFacts
import Derived.WalkSpells
import Derived.WalkLawsBesides
import Derived.Deep.RegionWith
import Derived.Deep.QuietTactic
import Derived.BigQuiet
import Derived.Deep.DeepCutAuto
namespace Go.Proofs.YbulkcqceFmt
open Go.RowKit Go.Extern.Stop Go.Stop Go.Extern
set_option linter.unusedVariables false
attribute [local go_sem] call9 guardF fmt0 fmt0r fmt1 fmt1r op3_100w op2_100w ptr91 elem91 isError91 ptr79 elem79 isError79

theorem kept1 {w : World} {p k : Nat} {a : Addr} {u : Value} (h : w.cell? a = some u) (hne : a.block ≠ p) (v : Value) : (w.setCell ⟨p, k, none⟩ v).cell? a = some u :=
  (World.cell?_of_block (w := w) (Below.heap_setCell w ⟨p, k, none⟩ v a.block hne)).trans h
theorem kept2 {w : World} {p k : Nat} {a : Addr} {u : Value} (h : w.cell? a = some u) (hne : a.block ≠ p) (v : Value) (o : Obj) : ((w.setCell ⟨p, k, none⟩ v).alloc o).cell? a = some u :=
  cell_later ((Below.refl _ _).alloc (Nat.le_refl _) o) (kept1 h hne v)
theorem kept3 {w : World} {p k : Nat} {a : Addr} {u : Value} (h : w.cell? a = some u) (hne : a.block ≠ p) (v : Value) (o o' : Obj) : (((w.setCell ⟨p, k, none⟩ v).alloc o).alloc o').cell? a = some u :=
  cell_later ((Below.refl _ _).alloc (Nat.le_refl _) o') (kept2 h hne v o)

set_option maxHeartbeats 400000 in
theorem set_low (F : Interp) (p : Nat) (n ms me mr : Int) (x : Value) (a : Addr) (s : ByteArray) (w : World) (hF : F.answers w.tape)
    (hg : w.cell? ⟨0, 0, none⟩ = some (.iface 91 (.pointer (some a)))) (hs : w.cell? a = some (.string s)) (hp0 : 0 ≠ p) (hpa : a.block ≠ p)
    (c0 : w.cell? ⟨p, 0, none⟩ = some (.int .i64 ms)) (c1 : w.cell? ⟨p, 1, none⟩ = some (.int .i64 me)) (c2 : w.cell? ⟨p, 2, none⟩ = some (.int .i64 mr)) (c76 : w.cell? ⟨p, 76, none⟩ = some x)
    (f76 : w.frozen? ⟨p, 76, none⟩ = false) (hlt : n < mr) :
    Calls Ybaf.prog 4 #[.pointer (some ⟨p, 0, none⟩), .int .i64 n] w fun e w' => ∃ q, e = .returned (.iface 79 (.pointer (some ⟨q, 0, none⟩))) ∧ w'.cell? ⟨q, 0 + 1, none⟩ = some (.iface 91 (.pointer (some a))) ∧
      Below w.heap.size (w.setCell ⟨p, 76, none⟩ (.int .i64 n)) w' := by
  have hF' := answers_open hF
  obtain ⟨P, hop⟩ := opPlain91_119w
  have hgw : ∀ v o, ((w.setCell ⟨p, 76, none⟩ v).alloc o).cell? ⟨0, 0, none⟩ = some (.iface 91 (.pointer (some a))) := fun v o => kept2 hg hp0 v o
  have hsw : ∀ v o o', (((w.setCell ⟨p, 76, none⟩ v).alloc o).alloc o').cell? a = some (.string s) := fun v o o' => kept3 hs hpa v o o'
  have hopw := fun name v o o' => hop name a s (((w.setCell ⟨p, 76, none⟩ v).alloc o).alloc o') (hsw v o o')
  clear hop hsw hs hpa hg
  go_enter Ybaf.func4, Ybaf.ntmps4
  go_wp2
  go_ret
  refine ⟨_, rfl, ?_, ?_⟩
  · go_simp
  · exact ((((Below.refl _ _).alloc (by simp) _).alloc (by simp) _).alloc (by simp; omega) _).drew

set_option maxHeartbeats 400000 in
theorem set_high (F : Interp) (p : Nat) (n ms me mr : Int) (x : Value) (a : Addr) (s : ByteArray) (w : World) (hF : F.answers w.tape)
    (hg : w.cell? ⟨1, 0, none⟩ = some (.iface 91 (.pointer (some a)))) (hs : w.cell? a = some (.string s)) (hp0 : 1 ≠ p) (hpa : a.block ≠ p)
    (c0 : w.cell? ⟨p, 0, none⟩ = some (.int .i64 ms)) (c1 : w.cell? ⟨p, 1, none⟩ = some (.int .i64 me)) (c2 : w.cell? ⟨p, 2, none⟩ = some (.int .i64 mr)) (c76 : w.cell? ⟨p, 76, none⟩ = some x)
    (f76 : w.frozen? ⟨p, 76, none⟩ = false) (hge : ¬ n < mr) (h0 : 0 < me) (hgt : me < n) :
    Calls Ybaf.prog 4 #[.pointer (some ⟨p, 0, none⟩), .int .i64 n] w fun e w' => ∃ q, e = .returned (.iface 79 (.pointer (some ⟨q, 0, none⟩))) ∧ w'.cell? ⟨q, 0 + 1, none⟩ = some (.iface 91 (.pointer (some a))) ∧
      Below w.heap.size (w.setCell ⟨p, 76, none⟩ (.int .i64 n)) w' := by
  have hF' := answers_open hF
  obtain ⟨P, hop⟩ := opPlain91_119w
  have hgw : ∀ v o, ((w.setCell ⟨p, 76, none⟩ v).alloc o).cell? ⟨1, 0, none⟩ = some (.iface 91 (.pointer (some a))) := fun v o => kept2 hg hp0 v o
  have hsw : ∀ v o o', (((w.setCell ⟨p, 76, none⟩ v).alloc o).alloc o').cell? a = some (.string s) := fun v o o' => kept3 hs hpa v o o'
  have hopw := fun name v o o' => hop name a s (((w.setCell ⟨p, 76, none⟩ v).alloc o).alloc o') (hsw v o o')
  clear hop hsw hs hpa hg
  go_enter Ybaf.func4, Ybaf.ntmps4
  go_wp2
  go_ret
  refine ⟨_, rfl, ?_, ?_⟩
  · go_simp
  · exact ((((Below.refl _ _).alloc (by simp) _).alloc (by simp) _).alloc (by simp; omega) _).drew

set_option maxHeartbeats 400000 in
theorem set_ok (p : Nat) (n ms me mr : Int) (x : Value) (w : World)
    (c0 : w.cell? ⟨p, 0, none⟩ = some (.int .i64 ms)) (c1 : w.cell? ⟨p, 1, none⟩ = some (.int .i64 me)) (c2 : w.cell? ⟨p, 2, none⟩ = some (.int .i64 mr)) (c76 : w.cell? ⟨p, 76, none⟩ = some x)
    (f76 : w.frozen? ⟨p, 76, none⟩ = false) (hge : ¬ n < mr) (hno : ¬ 0 < me ∨ ¬ me < n) :
    Calls Ybaf.prog 4 #[.pointer (some ⟨p, 0, none⟩), .int .i64 n] w fun e w' => e = .returned .nilIface ∧
      Below w.heap.size (w.setCell ⟨p, 76, none⟩ (.int .i64 n)) w' := by
  by_cases h0 : 0 < me
  · have h1 : ¬ me < n := by omega
    clear hno
    go_enter Ybaf.func4, Ybaf.ntmps4
    go_wp2
    go_ret
    exact ⟨rfl, (Below.refl _ _).alloc (by simp) _⟩
  · clear hno
    go_enter Ybaf.func4, Ybaf.ntmps4
    go_wp2
    go_ret
    exact ⟨rfl, (Below.refl _ _).alloc (by simp) _⟩
end Go.Proofs.YbulkcqceFmt
