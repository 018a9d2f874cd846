import Derived.Test.YbulkcqceKeeps
import Derived.ProofKit
import Derived.OpenShut
import Derived.ShutString
import Derived.ChangeOld
import Derived.Lib.SmallJoins
namespace Go.Proofs.Ybulkcqce.LawKeeps
open Go.ChangeShapes Go.WideShapes Go.ChangeAt Go.RowKit
set_option linter.unusedVariables false

theorem own : ownKnob Yba.prog.godebug = none := by kernel_rfl
theorem laidOut : laidOutB Yba.prog = true := by kernel_rfl
theorem cells2 : Yba.prog.cellsOf 2 = 1 := by kernel_rfl
theorem cells34 : Yba.prog.cellsOf 34 = 1 := by kernel_rfl
theorem cells24 : Yba.prog.cellsOf 24 = 1 := by kernel_rfl
theorem cells25 : Yba.prog.cellsOf 25 = 3 := by kernel_rfl

set_option maxHeartbeats 400000 in
theorem keeps_long (w : World) (a0 a1 : Option Addr) (l0 l1 cp0 cp1 : Nat) (hl : 1024 < l0 ∨ 1024 < l1) (b x0 x1 x2 : Int) (owned : Bool) :
    Calls Yba.prog 4 #[.slice a0 l0 cp0, .slice a1 l1 cp1, .int .u16 b, .agg #[.int .u16 x0, .int .u16 x1, .int .u16 x2], .bool owned] w fun e w' => e = .returned (.bool true) ∧ Below w.heap.size w w' := by
  by_cases h0 : 1024 < l0
  · have h0' : (1024 : Int) < (l0 : Int) := by omega
    go_enter Yba.func4, Yba.ntmps4
    go_wp2_with fail
    go_ret
    exact ⟨rfl, (Below.refl _ _).alloc (Nat.le_refl _) _⟩
  · have h1 : (1024 : Int) < (l1 : Int) := by omega
    have h0' : ¬ (1024 : Int) < (l0 : Int) := by omega
    go_enter Yba.func4, Yba.ntmps4
    go_wp2_with fail
    go_ret
    exact ⟨rfl, (Below.refl _ _).alloc (Nat.le_refl _) _⟩

/-- An array of three uint16 that came in. -/
theorem open_u16x3 {H : Type} {enc : TypeId × Value → H} {w : World} {base b0 : Nat} {spare : Nat → Bool} {held : Bool} {r : Reach} {v : Value} {d : DataW H} {ps : List MemPlace}
    (hval : Value.okWide Yba.prog w r b0 25 v) (hd : DataW.Trod enc Yba.prog w base spare held 25 v d ps) :
    ∃ x0 x1 x2 : Int, v = .agg #[.int .u16 x0, .int .u16 x1, .int .u16 x2] ∧ (0 ≤ x0 ∧ x0 ≤ 65535) ∧ (0 ≤ x1 ∧ x1 ≤ 65535) ∧ (0 ≤ x2 ∧ x2 ≤ 65535) := by
  simp only [Value.okWide, Yba.underlying25] at hval
  obtain ⟨cs, rfl, hsz, _⟩ := hval
  obtain ⟨c0, c1, c2, rfl⟩ := Go.Joins.array3 (hsz.trans cells25)
  obtain ⟨fuel, hf⟩ := hd
  obtain ⟨xs, m, rfl, hx, hlen, hn, hel⟩ := DataW.trod_array Yba.underlying25 hf
  have e0 := hel 0 (by omega)
  have e1 := hel 1 (by omega)
  have e2 := hel 2 (by omega)
  rw [cells24] at e0 e1 e2
  match xs, hn with
  | [y0, y1, y2], _ =>
    simp [Value.cells] at e0 e1 e2
    obtain ⟨x0, q0, _, w0⟩ := DataW.trod_int Yba.underlying24 e0
    obtain ⟨x1, q1, _, w1⟩ := DataW.trod_int Yba.underlying24 e1
    obtain ⟨x2, q2, _, w2⟩ := DataW.trod_int Yba.underlying24 e2
    simp at q0 q1 q2
    subst q0 q1 q2
    exact ⟨x0, x1, x2, rfl, bounds_u16 w0, bounds_u16 w1, bounds_u16 w2⟩

/-- A slice of integers that came in, as the walks want it. -/
theorem open_row {H : Type} {enc : TypeId × Value → H} {w : World} {held : Bool} {t e : TypeId} {k : IntKind} {a : Option Addr} {len cap : Nat} {d : DataW H} {ps : List MemPlace}
    (ht : Yba.prog.underlying t = some (.slice e)) (he : Yba.prog.underlying e = some (.int k)) (hc : Yba.prog.cellsOf e = 1)
    (hd : DataW.Trod enc Yba.prog w 0 (fun _ => true) held t (.slice a len cap) d ps) : ∃ z, Row k w a len z := by
  obtain ⟨fuel, hf⟩ := hd
  rcases open_ints ht he hc hf with ⟨hcs, _⟩ | ⟨x, l, c, zs, hcs, _, hl, hm, hz, _, hcell, hwz⟩
  · simp [Value.cells] at hcs
    obtain ⟨rfl, rfl, rfl⟩ := hcs
    exact ⟨fun _ => 0, fun h => by omega⟩
  · simp [Value.cells] at hcs
    obtain ⟨rfl, rfl, rfl⟩ := hcs
    refine ⟨fun i => zs.getD i 0, fun hpos => ?_⟩
    have hz' : zs.length = cap := by simpa using hz
    obtain ⟨b, off, spot⟩ := x
    have hs : spot = none := by simpa [Addr.add] using World.cell?_spot (hcell 0 (by omega))
    subst hs
    refine ⟨b, off, rfl, ?_, fun i hi => ?_⟩
    · have := hcell 0 (by omega)
      simp only [Addr.add] at this
      exact block_lt_of_cell (a := ⟨b, _, none⟩) this
    · have := hcell i (by omega)
      rwa [add_plain] at this

theorem walk (a0 a1 : Option Addr) (l0 l1 cp0 cp1 : Nat) (z0 z1 : Nat → Int) (b x0 x1 x2 : Int) (owned : Bool) (w : World) (r0 : Row .i64 w a0 l0 z0) (r1 : Row .u64 w a1 l1 z1)
    (wb : (Lit.int .u16 b).wf = true) (q0 : 0 ≤ x0 ∧ x0 ≤ 65535) (q1 : 0 ≤ x1 ∧ x1 ≤ 65535) (q2 : 0 ≤ x2 ∧ x2 ≤ 65535) :
    Calls Yba.prog 4 #[.slice a0 l0 cp0, .slice a1 l1 cp1, .int .u16 b, .agg #[.int .u16 x0, .int .u16 x1, .int .u16 x2], .bool owned] w fun e w' => e = .returned (.bool true) ∧ Below w.heap.size w w' := by
  by_cases hl : 1024 < l0 ∨ 1024 < l1
  · exact keeps_long w a0 a1 l0 l1 cp0 cp1 hl b x0 x1 x2 owned
  · have hb : 0 ≤ b ∧ b ≤ 65535 := bounds_u16 wb
    exact keeps_any w a0 a1 l0 l1 cp0 cp1 z0 z1 r0 r1 (by omega) (by omega) b x0 x1 x2 owned hb.1 hb.2 q0 q1 q2

set_option maxRecDepth 100000 in
theorem lifted (os : Os) (started : os.Started) (H : Type) (enc : TypeId × Value → H) :
    ReturnsInHanded {} Yba.checked os 4 .any (Rows.lawS4593AKeepsSpec.pre6 enc Yba.prog Yba.f4 Rows.lawS4593AKeepsRow.domain false) (Rows.lawS4593AKeepsSpec.post enc Yba.prog Yba.f4 false true false false) := by
  refine returnsInHanded_of_change (C := Yba.checked) own started (by kernel_rfl) Yba.func4
    (ChangeSpec.witness6 (enc := enc) (C := Yba.checked) false ⟨#[], #[.slice none 0 0, .slice none 0 0, .int .u16 0, .agg #[.int .u16 0, .int .u16 0, .int .u16 0], .bool false], []⟩ 8 (by kernel_rfl) (by kernel_rfl) (by kernel_rfl) (by kernel_rfl)) ?_
  intro W base args ds gs before hval0 hW hcnd _
  have hval : ∀ (j : Nat) t v, Yba.f4.params[j]? = some t → args[j]? = some v → Value.okWide Yba.prog W .any base t v := hval0
  have hW' := hW
  obtain ⟨p, q, hA0, hV, rfl, hfz, hnd⟩ := hW
  have hA : DataW.TrodAll enc Yba.prog W 0 (fun _ => true) true Yba.f4.params.toList args.toList ds p := hA0
  rw [Yba.params4] at hA hval
  obtain ⟨v0, vs0, d0, ds0, p0, q0, hargs, rfl, rfl, h0, r0⟩ := trodAll_cons hA
  obtain ⟨v1, vs1, d1, ds1, p1, q1, rfl, rfl, rfl, h1, r1⟩ := trodAll_cons r0
  obtain ⟨v2, vs2, d2, ds2, p2, q2, rfl, rfl, rfl, h2, r2⟩ := trodAll_cons r1
  obtain ⟨v3, vs3, d3, ds3, p3, q3, rfl, rfl, rfl, h3, r3⟩ := trodAll_cons r2
  obtain ⟨v4, vs4, d4, ds4, p4, q4, rfl, rfl, rfl, h4, r4⟩ := trodAll_cons r3
  obtain ⟨rfl, rfl, rfl⟩ := trodAll_nil r4
  obtain rfl : args = #[v0, v1, v2, v3, v4] := by cases args; simp_all
  obtain ⟨rfl, rfl⟩ := trodVars_none hV
  obtain ⟨a0, len0, cap0, rfl⟩ := okWide_slice Yba.underlying22 (hval 0 22 v0 rfl rfl)
  obtain ⟨a1, len1, cap1, rfl⟩ := okWide_slice Yba.underlying23 (hval 1 23 v1 rfl rfl)
  obtain ⟨b, rfl, rfl, rfl, wb⟩ := open_int Yba.underlying24 (hval 2 24 v2 rfl rfl) h2
  obtain ⟨x0, x1, x2, rfl, bx0, bx1, bx2⟩ := open_u16x3 (hval 3 25 v3 rfl rfl) h3
  obtain ⟨ow, rfl, rfl, rfl⟩ := open_bool Yba.underlying4 (hval 4 4 v4 rfl rfl) h4
  have lt0 : ∀ x ∈ p0, x.block < W.heap.size := by obtain ⟨m, hm⟩ := h0; exact DataW.trod_lt m _ _ _ hm
  have lt1 : ∀ x ∈ p1, x.block < W.heap.size := by obtain ⟨m, hm⟩ := h1; exact DataW.trod_lt m _ _ _ hm
  have lt3 : ∀ x ∈ p3, x.block < W.heap.size := by obtain ⟨m, hm⟩ := h3; exact DataW.trod_lt m _ _ _ hm
  obtain ⟨z0, w0⟩ := open_row Yba.underlying22 Yba.underlying2 cells2 h0
  obtain ⟨z1, w1⟩ := open_row Yba.underlying23 Yba.underlying34 cells34 h1
  clear hA0 hval0
  refine (walk a0 a1 len0 len1 cap0 cap1 z0 z1 b x0 x1 x2 ow W w0 w1 wb bx0 bx1 bx2).mono fun e W' ⟨he, bel⟩ => ?_
  subst he
  exact ⟨_, rfl, _, _, _, [], _, [], hW', trodAll_mk1 (shut_bool Yba.underlying4 _), (trodAll_cons_mk (Below.trod laidOut (by kernel_rfl) (of_decide_eq_true (by kernel_rfl)) h0 bel lt0) (trodAll_cons_mk (Below.trod laidOut (by kernel_rfl) (of_decide_eq_true (by kernel_rfl)) h1 bel lt1)
    (trodAll_cons_mk (shut_int Yba.underlying24 wb) (trodAll_cons_mk (Below.trod laidOut (by kernel_rfl) (of_decide_eq_true (by kernel_rfl)) h3 bel lt3) (trodAll_cons_mk (shut_bool Yba.underlying4 _) trodAll_mk0))))), rfl, bel.frame _, fun h => by cases h⟩

theorem over : Rows.lawS4593AKeepsRow.holds Yba.pinned (OpenSpec.ofChange Rows.lawS4593AKeepsSpec) :=
  OpenClaim.holds_of_wide 4 Yba.f4 rfl rfl rfl rfl rfl rfl rfl ⟨rfl, rfl, rfl, rfl, rfl⟩ rfl rfl rfl rfl rfl (by kernel_rfl) Yba.func4 (by kernel_rfl)
    (of_decide_eq_true (by kernel_rfl)) (by unfold Func.isWrapper; first | (rw [if_pos (by decide +kernel)]; kernel_rfl) | (rw [if_neg (by decide +kernel)]; exact ⟨rfl, rfl⟩))
    (fun os started H enc _ => lifted os started H enc)

theorem proved : Rows.LawS4593AKeepsSaid := over
#print axioms proved
end Go.Proofs.Ybulkcqce.LawKeeps
