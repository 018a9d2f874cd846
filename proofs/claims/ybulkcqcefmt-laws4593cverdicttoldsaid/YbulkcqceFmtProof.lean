import Derived.Test.YbulkcqceFmtWalk
import Derived.Test.YbulkcqceFmtTie
import Derived.Test.YbulkcqceFmtCards
import Derived.ProofKit
import Derived.Stop.JoinedAt
import Derived.Stop.JoinedTold
import Derived.Stop.Texts
import Derived.Stop.LaidErr
import Derived.Stop.LaidTwo
import Derived.SevenToldRow
import Derived.SevenTiedAt
namespace Go.Proofs.YbulkcqceFmt
open Go.ChangeShapes Go.WideShapes Go.ChangeAt Go.RowKit Go.Kit
open Go.Extern.Stop Go.Stop Go.Extern
set_option linter.unusedVariables false

theorem own : ownKnob Ybaf.prog.godebug = none := by kernel_rfl
theorem laidOut : laidOutB Ybaf.pinned.checked.prog = true := by kernel_rfl
theorem stopsIs : Ybaf.pinned.checked.prog.stops = ["fmt.errorf"] := by kernel_rfl
theorem stopKnobsIs : Ybaf.pinned.checked.prog.stopKnobs = [] := by kernel_rfl
theorem quietIs (os : Os) : Stop.quiet Ybaf.pinned.checked.prog os := by
  intro k hk
  rw [stopKnobsIs] at hk
  cases hk
/-- The two listed variables' names, off the given row. -/
def vI : String := Rows.lawS4593CVerdictSpec.vars.headD default
def vT : String := Rows.lawS4593CVerdictSpec.vars.tail.headD default
theorem gI : Ybaf.prog.globalNamed vI = some 0 := by kernel_rfl
theorem gT : Ybaf.prog.globalNamed vT = some 1 := by kernel_rfl
theorem gIType : (Ybaf.prog.globals[0]?).map (·.type) = some 35 := by kernel_rfl
theorem gTType : (Ybaf.prog.globals[1]?).map (·.type) = some 35 := by kernel_rfl
theorem cells93 : Ybaf.prog.cellsOf 93 = 1 := by kernel_rfl
theorem cells9 : Ybaf.prog.cellsOf 9 = 1 := by kernel_rfl
/-- The name that the given data bear. -/
def nmES : String := match (Rows.laid_amalgam_example_amalgam_session_ErrImplausible : DataW Unit) with | .iface n _ => n | _ => default
theorem nmES_is : String.singleton '*' ++ "errors.errorString" = nmES := by decide +kernel
theorem row91 (u : TypeId) (h : Ybaf.prog.typeName? 3 u = some nmES) : u = 91 :=
  typeName_ptr_named (nm := "errors.errorString") (by kernel_rfl) (by kernel_rfl) (by decide) u (by rw [h, ← nmES_is]; rfl)

/-- A world in which the two variables hold what the row lists. -/
def laidW (P : Program) (os : Os) : World :=
  let low := (World.holding P default ⟨#[], #[], []⟩).heap.size
  let w0 := World.holding P os ⟨#[.cells #[.string ⟨#[105, 109, 112, 108, 97, 117, 115, 105, 98, 108, 101]⟩] 93, .cells #[.string ⟨#[116, 111, 111, 32, 109, 97, 110, 121, 32, 101, 108, 101, 109, 101, 110, 116, 115]⟩] 93], #[], []⟩
  { w0 with heap := (w0.heap.modify 0 fun
      | .cells _ t frozen => .cells #[.iface 91 (.pointer (some ⟨low, 0, none⟩))] t frozen
      | o => o).modify 1 fun
      | .cells _ t frozen => .cells #[.iface 91 (.pointer (some ⟨low + 1, 0, none⟩))] t frozen
      | o => o }
theorem laid_met (os : Os) (args : Array Value) : laidMet Ybaf.prog Rows.lawS4593CVerdictRow.laid ((laidW Ybaf.prog os).forCall (fun _ _ => 0) ⟨#[], args, []⟩).memory :=
  laidMet_of_run (ps := [.cell 0 0, .cell (World.holding Ybaf.prog default ⟨#[], #[], []⟩).heap.size 0, .cell 1 0, .cell ((World.holding Ybaf.prog default ⟨#[], #[], []⟩).heap.size + 1) 0]) 8 (by kernel_rfl) (by kernel_rfl) (by kernel_rfl)

set_option maxRecDepth 100000 in
theorem lifted (os : Os) (started : os.Started) (H : Type) (enc : TypeId × Value → H) :
    ReturnsInTold none {} Ybaf.checked os 3 .any Input.okWide ((OpenSpec.ofChange Rows.lawS4593CVerdictSpec).preRow enc Ybaf.prog Ybaf.f3 Rows.lawS4593CVerdictRow.domain false Rows.lawS4593CVerdictRow.laid) (fun F => ((OpenSpec.ofChange Rows.lawS4593CVerdictSpec).at F).post enc Ybaf.prog Ybaf.f3 false true false false) (aloneAtReturn Ybaf.prog) nothingAlways := by
  refine returnsInTold_of_row (C := Ybaf.checked) (s := OpenSpec.ofChange Rows.lawS4593CVerdictSpec) (by kernel_rfl) own started (by kernel_rfl) Ybaf.func3
    (OpenSpec.witness_stopped_at (enc := enc) (C := Ybaf.checked) false (laidW Ybaf.prog os) #[.int .i64 0, .int .i64 0, .int .i64 0, .int .i64 0] rfl (by kernel_rfl) (by kernel_rfl) (by kernel_rfl)
      (OpenSpec.preRow_of_B rfl 8 (by kernel_rfl) (by kernel_rfl) (laid_met os _))) ?_
  intro F W base args ds gs before _ hF hval0 hW _ _ _ hL _
  have hval : ∀ (j : Nat) t v, Ybaf.f3.params[j]? = some t → args[j]? = some v → Value.okWide Ybaf.prog W .any base t v := hval0
  have hW' := hW
  obtain ⟨p, q, hA0, hV0, rfl, hfz, hnd⟩ := hW
  have hA : DataW.TrodAll enc Ybaf.prog W 0 (fun _ => true) true Ybaf.f3.params.toList args.toList ds p := hA0
  have hV : DataW.TrodVars enc Ybaf.prog W (fun _ => true) [vI, vT] gs q := hV0
  rw [Ybaf.params3] at hA hval
  obtain ⟨v0, v1, v2, v3, d0, d1, d2, d3, p0, p1, p2, p3, rfl, rfl, rfl, h0, h1, h2, h3⟩ := trodAll_four hA
  obtain ⟨n, rfl, rfl, rfl, wn⟩ := open_int Ybaf.underlying2 (hval 0 2 v0 rfl rfl) h0
  obtain ⟨mr, rfl, rfl, rfl, wmr⟩ := open_int Ybaf.underlying3 (hval 1 3 v1 rfl rfl) h1
  obtain ⟨me, rfl, rfl, rfl, wme⟩ := open_int Ybaf.underlying3 (hval 2 3 v2 rfl rfl) h2
  obtain ⟨ms, rfl, rfl, rfl, wms⟩ := open_int Ybaf.underlying3 (hval 3 3 v3 rfl rfl) h3
  have hL' : laidMet Ybaf.prog [(vI, .iface nmES (.ptr (.agg [.lit (.string [105, 109, 112, 108, 97, 117, 115, 105, 98, 108, 101])]))), (vT, .iface nmES (.ptr (.agg [.lit (.string [116, 111, 111, 32, 109, 97, 110, 121, 32, 101, 108, 101, 109, 101, 110, 116, 115])])))] W := hL
  obtain ⟨a0, a1, s0, s1, c0, c1, t0, t1, hv0, hv1, hc0, hs0, hz0, hc1, hs1, hz1, hne, hb0, hb1⟩ := laid_sentinels2 hL' gI gIType gT gTType Ybaf.underlying35 row91 Ybaf.underlying91 Ybaf.underlying93 rfl rfl Ybaf.underlying9 cells93 cells9
  have vr : ∀ {X : World}, X.var? Ybaf.prog vI = some #[.iface 91 (.pointer (some a0))] → X.var? Ybaf.prog vT = some #[.iface 91 (.pointer (some a1))] → ∀ sp : Nat → Bool,
      DataW.TrodVars enc Ybaf.prog X sp [vI, vT] [tok enc (.iface 91 (.pointer (some a0))), tok enc (.iface 91 (.pointer (some a1)))] [.cell 0 0, .cell 1 0] :=
    fun x0 x1 sp => vars_read2 enc gI gIType Ybaf.underlying35 x0 trivial gT gTType Ybaf.underlying35 x1 trivial sp
  obtain ⟨rfl, rfl⟩ := hV.unique (vr hv0 hv1 _)
  clear hA0 hV0 hval0 hL
  have hg0 : W.cell? ⟨0, 0, none⟩ = some (.iface 91 (.pointer (some a0))) := by simpa using World.var?_cell gI hv0 0
  have hg1 : W.cell? ⟨1, 0, none⟩ = some (.iface 91 (.pointer (some a1))) := by simpa using World.var?_cell gT hv1 0
  have fin : ∀ (e : Ending) (W' : World), (e = .returned (.bool true) ∧ Below W.heap.size W W') → ∃ v, e = .returned v ∧ ((OpenSpec.ofChange Rows.lawS4593CVerdictSpec).at F.told).post enc Ybaf.checked.prog Ybaf.f3 false true false false W #[.int .i64 n, .int .i64 mr, .int .i64 me, .int .i64 ms] v W' := by
    rintro e W' ⟨rfl, bel⟩
    refine ⟨_, rfl, _, _, _, [], [], [.cell 0 0, .cell 1 0], hW', ?_, ?_, ?_, bel.frame _, fun h => by cases h⟩
    · exact trodAll_mk1 (shut_bool Ybaf.underlying4 true)
    · exact trodAll_mk4 (p := []) (p' := []) (p'' := []) (shut_int Ybaf.underlying2 wn) (shut_int Ybaf.underlying3 wmr) (shut_int Ybaf.underlying3 wme) (shut_int Ybaf.underlying3 wms)
    · exact vr (var?_below bel gI (block_lt_of_cell hg0) hv0) (var?_below bel gT (block_lt_of_cell hg1) hv1) _
  by_cases h1 : n < mr
  · exact (law_low F.told n mr me ms a0 a1 s0 s1 c0 c1 t0 t1 W hF hg0 hg1 hc0 hc1 hne hb0 hb1 h1).mono fin
  by_cases h2 : 0 < me ∧ me < n
  · exact (law_high F.told n mr me ms a0 a1 s0 s1 c0 c1 t0 t1 W hF hg0 hg1 hc0 hc1 hne hb0 hb1 h1 h2.1 h2.2).mono fin
  · exact (law_ok n mr me ms W h1 (by omega)).mono fin

theorem verdict_proved : Rows.LawS4593CVerdictToldSaid :=
  Claim7.holds_of_told_tied_any_at .later 3 Ybaf.f3 "fmt.errorf" [] [] _ _ _ _ _ (by kernel_rfl) rfl rfl rfl laidOut (by kernel_rfl) rfl ⟨rfl, rfl, rfl, rfl, rfl, rfl, rfl⟩ rfl rfl (by kernel_rfl) (by kernel_rfl) Ybaf.func3 (by kernel_rfl)
    (of_decide_eq_true (by kernel_rfl)) (by unfold Func.isWrapper; first | (rw [if_pos (by decide +kernel)]; kernel_rfl) | (rw [if_neg (by decide +kernel)]; exact ⟨rfl, rfl⟩)) stopsIs.symm rfl stopKnobsIs.symm (by kernel_rfl)
    (by kernel_rfl) (by kernel_rfl) (by kernel_rfl) (by kernel_rfl) (by kernel_rfl) (by kernel_rfl) (by kernel_rfl) (by kernel_rfl) (by kernel_rfl) rfl (by kernel_rfl) rfl rfl
    rfl rfl
    rfl (by kernel_rfl) (by kernel_rfl) (by kernel_rfl) (by decide) (by kernel_rfl) lawS4593CVerdict_row_tie
    (OpenClaim.moreEntering_of (by kernel_rfl) (by kernel_rfl) (by kernel_rfl) (by kernel_rfl) (by kernel_rfl) (by kernel_rfl) (by kernel_rfl) (by kernel_rfl) (by kernel_rfl) (by kernel_rfl))
    ⟨_, WideRow.started_initial, quietIs _⟩
    (fun os started _ H enc _ => lifted os started H enc)
#print axioms verdict_proved
end Go.Proofs.YbulkcqceFmt
