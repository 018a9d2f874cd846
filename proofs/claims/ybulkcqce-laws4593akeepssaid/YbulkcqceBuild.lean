import Derived.Test.YbulkcqceConf
import Derived.RegionTactic
import Derived.ChangeAlike
import Derived.BigRegion
import Derived.Deep.Light
import Derived.Deep.DeepCutAuto
namespace Go.Proofs.Ybulkcqce
open Go.RowKit
set_option linter.unusedVariables false

theorem nat_mod (x : Int) (n : Nat) (h0 : 0 ≤ x) (hn : 1 ≤ n) : ∃ o : Nat, x % (n : Int) = (o : Int) ∧ o < n := by
  refine ⟨(x % (n : Int)).toNat, ?_, ?_⟩
  · rw [Int.toNat_of_nonneg (Int.emod_nonneg _ (by omega))]
  · have := Int.emod_lt_of_pos x (b := (n : Int)) (by omega)
    have := Int.emod_nonneg x (b := (n : Int)) (by omega)
    omega

set_option maxHeartbeats 1000000 in
theorem bs_any (w : World) (n : Nat) (x0 x1 x2 : Int) (h1 : 1 ≤ n) (hn : n ≤ 1024) (a0 : 0 ≤ x0 ∧ x0 ≤ 65535) (a1 : 0 ≤ x1 ∧ x1 ≤ 65535) (a2 : 0 ≤ x2 ∧ x2 ≤ 65535) :
    Calls Yba.prog 6 #[.int .i64 n, .agg #[.int .u16 x0, .int .u16 x1, .int .u16 x2]] w fun e w' =>
      ∃ o0 o1 o2 : Nat, o0 < n ∧ o1 < n ∧ o2 < n ∧ e = .returned (.agg #[.int .i64 o0, .int .i64 o1, .int .i64 o2]) ∧ Below w.heap.size w w' := by
  obtain ⟨a00, a01⟩ := a0
  obtain ⟨a10, a11⟩ := a1
  obtain ⟨a20, a21⟩ := a2
  obtain ⟨o0, e0, l0⟩ := nat_mod x0 n a00 h1
  obtain ⟨o1, e1, l1⟩ := nat_mod x1 n a10 h1
  obtain ⟨o2, e2, l2⟩ := nat_mod x2 n a20 h1
  go_enter Yba.func6, Yba.ntmps6
  go_wp2
  refine wp_loop_rounds 4 ?_
  rw [rounds_succ]
  go_wp2
  rw [rounds_succ]
  go_wp2
  rw [rounds_succ]
  go_wp2
  rw [rounds_succ]
  go_wp2
  refine bodyPost_ret (v := .agg #[.int .i64 o0, .int .i64 o1, .int .i64 o2]) (by simp [results, Yba.results6, go_sem]) rfl ⟨o0, o1, o2, l0, l1, l2, rfl, ?_⟩
  exact (((Below.refl _ _).alloc (Nat.le_refl _) _).alloc (by simp) _).alloc (by simp; omega) _

theorem Yba.info2 : (Yba.prog.info? 2).map (fun i => (i.zero, i.size, i.bytes)) = some (some (.int .i64 0), 1, 8) := by kernel_rfl
theorem Yba.info34 : (Yba.prog.info? 34).map (fun i => (i.zero, i.size, i.bytes)) = some (some (.int .u64 0), 1, 8) := by kernel_rfl
theorem Yba.info36 : (Yba.prog.info? 36).map (fun i => (i.zero, i.size, i.bytes)) = some (some (.int .u32 0), 1, 4) := by kernel_rfl

namespace Fil
variable {w : World} {p bc bi bh n : Nat} {C I : Nat → Int}
theorem ne_pc (h : Fil w p bc bi bh n C I) : p ≠ bc := by
  rintro rfl
  obtain ⟨c, hb, _, _⟩ := h.hc
  have := h.hp.symm.trans hb
  simp at this
theorem ne_pi (h : Fil w p bc bi bh n C I) : p ≠ bi := by
  rintro rfl
  obtain ⟨c, hb, _, _⟩ := h.hi
  have := h.hp.symm.trans hb
  simp at this
theorem ne_ci (h : Fil w p bc bi bh n C I) : bc ≠ bi := by
  rintro rfl
  obtain ⟨c, hb, _, _⟩ := h.hc
  obtain ⟨c', hb', _, _⟩ := h.hi
  have := hb.symm.trans hb'
  simp at this
theorem ne_ch (h : Fil w p bc bi bh n C I) : bc ≠ bh := by
  rintro rfl
  obtain ⟨c, hb, _, _⟩ := h.hc
  obtain ⟨c', hb', _, _⟩ := h.hh
  have := hb.symm.trans hb'
  simp at this
theorem ne_ih (h : Fil w p bc bi bh n C I) : bi ≠ bh := by
  rintro rfl
  obtain ⟨c, hb, _, _⟩ := h.hi
  obtain ⟨c', hb', _, _⟩ := h.hh
  have := hb.symm.trans hb'
  simp at this
theorem setC (h : Fil w p bc bi bh n C I) (i : Nat) (z : Int) : Fil (w.setCell ⟨bc, i, none⟩ (.int .i64 z)) p bc bi bh n (fun j => if j = i then z else C j) I :=
  ⟨(Below.heap_setCell _ _ _ _ h.ne_pc).trans h.hp, (h.hc.set i _).congr (fun j _ => by split <;> rfl), h.hi.setOther h.ne_ci.symm _, h.hh.setOther h.ne_ch.symm _⟩
theorem setI (h : Fil w p bc bi bh n C I) (i : Nat) (z : Int) : Fil (w.setCell ⟨bi, i, none⟩ (.int .u64 z)) p bc bi bh n C (fun j => if j = i then z else I j) :=
  ⟨(Below.heap_setCell _ _ _ _ h.ne_pi).trans h.hp, h.hc.setOther h.ne_ci _, (h.hi.set i _).congr (fun j _ => by split <;> rfl), h.hh.setOther h.ne_ih.symm _⟩
end Fil

theorem size3 (w : World) (o1 o2 o3 : Obj) : (((w.alloc o1).alloc o2).alloc o3).heap.size = w.heap.size + 1 + 1 + 1 := by simp
theorem row_at0 (w : World) (z : Value) (n : Nat) (t : TypeId) (o1 o2 : Obj) : (((w.alloc (.cells (madeCells #[z] n) t)).alloc o1).alloc o2).rowIs w.heap.size t n (fun _ => z) := ((World.rowIs_made w z n t).alloc _).alloc _
theorem row_at1 (w : World) (z : Value) (n : Nat) (t : TypeId) (o1 o2 : Obj) : (((w.alloc o1).alloc (.cells (madeCells #[z] n) t)).alloc o2).rowIs (w.heap.size + 1) t n (fun _ => z) := by
  have h := (World.rowIs_made (w.alloc o1) z n t).alloc o2
  have e : (w.alloc o1).heap.size = w.heap.size + 1 := by simp
  rwa [e] at h
theorem row_at2 (w : World) (z : Value) (n : Nat) (t : TypeId) (o1 o2 : Obj) : (((w.alloc o1).alloc o2).alloc (.cells (madeCells #[z] n) t)).rowIs (w.heap.size + 1 + 1) t n (fun _ => z) := by
  have h := World.rowIs_made ((w.alloc o1).alloc o2) z n t
  have e : ((w.alloc o1).alloc o2).heap.size = w.heap.size + 1 + 1 := by simp
  rwa [e] at h
theorem below3 (w : World) (o1 o2 o3 : Obj) : Below w.heap.size w (((w.alloc o1).alloc o2).alloc o3) :=
  (((Below.refl _ _).alloc (Nat.le_refl _) _).alloc (by simp) _).alloc (by simp; omega) _
theorem made_rel (w : World) {o1 o2 o3 : Obj} {p bc bi bh n : Nat} (hp : w.heap.size + 1 + 1 + 1 = p) (h1 : (((w.alloc o1).alloc o2).alloc o3).rowIs bc 2 n (fun _ => .int .i64 0)) (h2 : (((w.alloc o1).alloc o2).alloc o3).rowIs bi 34 n (fun _ => .int .u64 0)) (h3 : (((w.alloc o1).alloc o2).alloc o3).rowIs bh 36 n (fun _ => .int .u32 0))
    (g1 : w.heap.size ≤ bc) (g2 : w.heap.size ≤ bi) (hb : Below w.heap.size w (((w.alloc o1).alloc o2).alloc o3)) :
    ∃ (p' bc' bi' bh' : Nat), Value.pointer (some ⟨p, 0, none⟩) = .pointer (some ⟨p', 0, none⟩) ∧ Fil ((((w.alloc o1).alloc o2).alloc o3).alloc (.cells #[.slice (some ⟨bc, 0, none⟩) n n, .slice (some ⟨bi, 0, none⟩) n n, .slice (some ⟨bh, 0, none⟩) n n] 30)).drew p' bc' bi' bh' n (fun _ => 0) (fun _ => 0) ∧
      Below w.heap.size w ((((w.alloc o1).alloc o2).alloc o3).alloc (.cells #[.slice (some ⟨bc, 0, none⟩) n n, .slice (some ⟨bi, 0, none⟩) n n, .slice (some ⟨bh, 0, none⟩) n n] 30)).drew ∧ w.heap.size ≤ bc' ∧ w.heap.size ≤ bi' := by
  have es := size3 w o1 o2 o3
  generalize ((w.alloc o1).alloc o2).alloc o3 = w3 at *
  subst hp
  refine ⟨_, bc, bi, bh, rfl, ⟨?_, (h1.alloc _).drew, (h2.alloc _).drew, (h3.alloc _).drew⟩, (hb.alloc (by omega) _).drew, g1, g2⟩
  show (w3.alloc _).heap[w.heap.size + 1 + 1 + 1]? = _
  rw [← es]
  exact Go.Deep.blk_alloc_new _ _

/-- What the walk knows of a slice of numbers that came in. -/
def Row (k : IntKind) (w : World) (a : Option Addr) (len : Nat) (z : Nat → Int) : Prop :=
  0 < len → ∃ b off, a = some ⟨b, off, none⟩ ∧ b < w.heap.size ∧ ∀ i, i < len → w.cell? ⟨b, off + i, none⟩ = some (.int k (z i))

/-- The filter that 'build' hands back: of its content nothing is asked. -/
def Built (w w' : World) (v : Value) : Prop :=
  ∃ (p bc bi bh n : Nat) (C I : Nat → Int), v = .pointer (some ⟨p, 0, none⟩) ∧ 1 ≤ n ∧ n ≤ 1024 ∧ Fil w' p bc bi bh n C I ∧ Below w.heap.size w w'

set_option maxHeartbeats 1000000 in
theorem build_any (w : World) (a0 a1 : Option Addr) (l0 l1 cp0 cp1 : Nat) (z0 z1 : Nat → Int) (r0 : Row .i64 w a0 l0 z0) (r1 : Row .u64 w a1 l1 z1) (hl0 : l0 ≤ 1024) (hl1 : l1 ≤ 1024) :
    Calls Yba.prog 5 #[.slice a0 l0 cp0, .slice a1 l1 cp1] w fun e w' => ∃ v, e = .returned v ∧ Built w w' v := by
  go_enter Yba.func5, Yba.ntmps5
  go_upto_if 14 with fail
  go_cut [5] (fun s5 wx => ∃ n : Nat, s5 = .int .i64 n ∧ l0 ≤ n ∧ l1 ≤ n ∧ n ≤ 1024 ∧ w = wx)
  case first =>
    go_wp2
    · go_meet
      exact ⟨l1, rfl, by omega, by omega, by omega, rfl⟩
    · go_meet
      exact ⟨l0, rfl, by omega, by omega, by omega, rfl⟩
  case rest =>
  obtain ⟨m, rfl, hm0, hm1, hm, rfl⟩ := hcut
  go_upto_if 18 with fail
  go_cut [5] (fun s5 wx => ∃ n : Nat, s5 = .int .i64 n ∧ l0 ≤ n ∧ l1 ≤ n ∧ 1 ≤ n ∧ n ≤ 1024 ∧ w = wx)
  case first =>
    by_cases hz : m = 0
    · have hz' : ((m : Int) == 0) = true := by simp [hz]
      have HZ : Hid (m = 0) := hz
      clear hz
      go_wp2
      go_meet
      have := HZ.out
      exact ⟨1, rfl, by omega, by omega, by omega, by omega, rfl⟩
    · have hz' : ((m : Int) == 0) = false := by simp; omega
      go_wp2
      go_meet
      exact ⟨m, rfl, by omega, by omega, by omega, by omega, rfl⟩
  case rest =>
  clear hm hm0 hm1 m
  obtain ⟨n, rfl, hn0, hn1, hn, hn', rfl⟩ := hcut
  have mk1 := run_make_row' (P := Yba.prog) 22 2 (.int .i64 0) 8 Yba.underlying22 Yba.info2 rfl .i64 .i64 n (by omega) (by omega)
  have mk2 := run_make_row' (P := Yba.prog) 23 34 (.int .u64 0) 8 Yba.underlying23 Yba.info34 rfl .i64 .i64 n (by omega) (by omega)
  have mk3 := run_make_row' (P := Yba.prog) 28 36 (.int .u32 0) 4 Yba.underlying28 Yba.info36 rfl .i64 .i64 n (by omega) (by omega)
  go_upto_region 6 with fail
  go_cut [6] (fun s6 wx => ∃ (p bc bi bh : Nat), s6 = .pointer (some ⟨p, 0, none⟩) ∧ Fil wx p bc bi bh n (fun _ => 0) (fun _ => 0) ∧ Below w.heap.size w wx ∧ w.heap.size ≤ bc ∧ w.heap.size ≤ bi)
  case first =>
    go_region
    all_goals (go_wp2_with fail; go_meet)
    all_goals go_light
    · exact made_rel w rfl (row_at0 ..) (row_at1 ..) (row_at2 ..) (by omega) (by omega) (below3 ..)
    · exact made_rel w rfl (row_at0 ..) (row_at2 ..) (row_at1 ..) (by omega) (by omega) (below3 ..)
    · exact made_rel w rfl (row_at1 ..) (row_at0 ..) (row_at2 ..) (by omega) (by omega) (below3 ..)
    · exact made_rel w rfl (row_at2 ..) (row_at0 ..) (row_at1 ..) (by omega) (by omega) (below3 ..)
    · exact made_rel w rfl (row_at1 ..) (row_at2 ..) (row_at0 ..) (by omega) (by omega) (below3 ..)
    · exact made_rel w rfl (row_at2 ..) (row_at1 ..) (row_at0 ..) (by omega) (by omega) (below3 ..)
  case rest =>
  clear mk1 mk2 mk3
  obtain ⟨p, bc, bi, bh, rfl, hF, hB, gc, gi⟩ := hcut
  go_wp2
  go_loopw [7] (fun i wr => ∃ (k : Nat) (C : Nat → Int), k ≤ l0 ∧ i = .int .i64 k ∧ Fil wr p bc bi bh n C (fun _ => 0) ∧ Below w.heap.size w wr) (fun i _ => l0 - (intOf i).toNat)
  case atStart => exact ⟨0, fun _ => 0, by omega, rfl, hF, hB⟩
  case round =>
    obtain ⟨k, C, hk, rfl, hf, hbel⟩ := hrel
    by_cases hlt : k < l0
    · obtain ⟨b, off, rfl, hbw, hcell⟩ := r0 (by omega)
      have ca := (hbel.cell (p := ⟨b, off + k, none⟩) hbw).trans (hcell k hlt)
      have c0 := hf.c0
      have fz := hf.hc.frozen k
      have cc := hf.cc (i := k) (by omega)
      have g1 : (k : Int) < (n : Int) := by omega
      have g2 : (k : Int) < (l0 : Int) := by omega
      go_wp2
      go_region
      all_goals go_wp2
      all_goals go_roundw
      case rel => exact ⟨k + 1, _, by omega, by go_num, (hf.setC k _).of_blocks (fun _ _ => rfl), (hbel.setCell (by exact gc) _).drew⟩
      case measure => simp [intOf]; omega
    · go_wp2
      go_loopw [8] (fun i wr2 => ∃ (k : Nat) (I : Nat → Int), k ≤ l1 ∧ i = .int .i64 k ∧ Fil wr2 p bc bi bh n C I ∧ Below w.heap.size w wr2) (fun i _ => l1 - (intOf i).toNat)
      case atStart => exact ⟨0, fun _ => 0, by omega, rfl, hf, hbel⟩
      case round =>
        clear hf hbel hB hF r0
        obtain ⟨j, I, hj, rfl, hf, hbel⟩ := hrel
        by_cases hjl : j < l1
        · obtain ⟨b, off, rfl, hbw, hcell⟩ := r1 (by omega)
          have ca := (hbel.cell (p := ⟨b, off + j, none⟩) hbw).trans (hcell j hjl)
          have c1 := hf.c1
          have fz := hf.hi.frozen j
          have cc := hf.ci (i := j) (by omega)
          have g1 : (j : Int) < (n : Int) := by omega
          have g2 : (j : Int) < (l1 : Int) := by omega
          go_wp2
          go_region
          all_goals go_wp2
          all_goals go_roundw
          case rel => exact ⟨j + 1, _, by omega, by go_num, (hf.setI j _).of_blocks (fun _ _ => rfl), (hbel.setCell (by exact gi) _).drew⟩
          case measure => simp [intOf]; omega
        · go_wp2
          go_ret
          exact ⟨_, rfl, p, bc, bi, bh, n, C, I, rfl, hn, hn', hf, hbel⟩
end Go.Proofs.Ybulkcqce
