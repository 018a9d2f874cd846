import Derived.Test.YbulkcqewCommit
import Derived.Deep.QuietTactic
import Derived.BigQuiet
import Derived.Deep.DeepCutAuto
namespace Go.Proofs.Ybulkcqew
open Go.RowKit
set_option linter.unusedVariables false

/-- The bytes that came in. -/
def BytesAt (w : World) (a : Option Addr) (len : Nat) (z : Nat → Nat) : Prop :=
  0 < len → ∃ b off, a = some ⟨b, off, none⟩ ∧ b < w.heap.size ∧ ∀ i, i < len → w.cell? ⟨b, off + i, none⟩ = some (.int .u8 (z i : Int)) ∧ z i ≤ 255

/-- The state at the round's head: the inserts and the row of the model agree. -/
structure St (w0 w : World) (p bm ph : Nat) (nx : Int) (b : Nat) (S : Nat → Bool) (N n : Nat) : Prop where
  ins : Ins w p bm nx b 0 S N n
  row : w.rowIs ph 4 N (fun i => .bool (S i))
  bel : Below w0.heap.size w0 w

theorem info4 : (Yba.prog.info? 4).map (fun i => (i.zero, i.size, i.bytes)) = some (some (.bool false), 1, 1) := by kernel_rfl

theorem cnt_le (S : Nat → Bool) : ∀ N, cnt S N ≤ N
  | 0 => Nat.le_refl _
  | N + 1 => by
    have := cnt_le S N
    have : (S N).toNat ≤ 1 := Bool.toNat_le _
    rw [cnt]
    omega

/-- What a commit leaves, in both cases. -/
def Left6 (w w' : World) (p bm key b N n : Nat) (nx : Int) (S : Nat → Bool) : Prop :=
  Only p bm w w' ∧ ((key ≠ b ∧ Ins w' p bm nx b 0 (upd S key true) N (n + 1)) ∨ (key = b ∧ ∃ b', b < b' ∧ b' ≤ N ∧ (∀ i, b < i → i < b' → S i = true) ∧ S b' = false ∧ Ins w' p bm nx b' 0 (swept S b b') N n))
theorem commit6 (p bm key b N n : Nat) (nx : Int) (S : Nat → Bool) (w : World) (hI : Ins w p bm nx b 0 S N n) (hk : key < N) (hb : b < N) (hN : N ≤ 100000) (hn : n ≤ 100000) (hS : ∀ k, S k = true → k < N) :
    Calls Yba.prog 6 #[.pointer (some ⟨p, 0, none⟩), .int .i64 (key : Int)] w fun e w' => e = .returned (.tuple #[]) ∧ Left6 w w' p bm key b N n nx S := by
  by_cases e : key = b
  · subst e
    refine (commit6_near p bm key N n nx S w hI hb hN hS).mono ?_
    rintro e w' ⟨rfl, o, h⟩
    exact ⟨rfl, o, .inr ⟨rfl, h⟩⟩
  · refine (commit6_far p bm key b N n nx S w hI hk hb hN hn e).mono ?_
    rintro e' w' ⟨rfl, o, h⟩
    exact ⟨rfl, o, .inl ⟨e, h⟩⟩

set_option maxRecDepth 100000 in
set_option maxHeartbeats 1000000 in
theorem script_walk (m : Nat) (a1 : Option Addr) (len cap : Nat) (z : Nat → Nat) (w : World) (h0 : m ≤ 255) (hl : len ≤ 512) (r : BytesAt w a1 len z) :
    Calls Yba.prog 3 #[.int .u8 (m : Int), .slice a1 len cap] w fun e w' => e = .returned (.bool true) ∧ Below w.heap.size w w' := by
  obtain ⟨L, hL⟩ : ∃ L, m % 32 = L := ⟨_, rfl⟩
  have hL1 : L < 32 := by omega
  have hL2 : (m : Int).tmod 32 = (L : Int) := by rw [Int.tmod_eq_emod_of_nonneg (by omega)]; omega
  obtain ⟨N, hN⟩ : ∃ N, 64 + len + 2 = N := ⟨_, rfl⟩
  have mk := run_make_row' (P := Yba.prog) 25 4 (.bool false) 1 Yba.underlying25 info4 rfl .i64 .i64 N (by omega) (by omega)
  have hNi : (64 : Int) + (len : Int) + 2 = (N : Int) := by omega
  clear hL
  go_enter Yba.func3, Yba.ntmps3
  go_wp2_with fail
  refine (newInserts5 L N (by omega) w).mono ?_
  rintro e w1 ⟨p, bm, rfl, hI, hB, hp, hbm⟩
  go_wp2_with fail
  obtain ⟨ph, hph⟩ : ∃ ph, w1.heap.size = ph := ⟨_, rfl⟩
  have h1 : St w (w1.alloc (.cells (madeCells #[.bool false] N) 4)) p bm ph L L (fun _ => false) N 0 :=
    ⟨hI.of_blocks (Below.heap_alloc _ _ _ hI.pt) (Below.heap_alloc _ _ _ hI.hm.lt), hph ▸ World.rowIs_made w1 (.bool false) N 4, hB.alloc hB.size _⟩
  have n1 : ph ≠ p := by have := hI.pt; omega
  have n2 : ph ≠ bm := by have := hI.hm.lt; omega
  have n3 : w.heap.size ≤ ph := by have := hB.size; omega
  clear mk hI hB
  generalize w1.alloc (.cells (madeCells #[.bool false] N) 4) = w2 at h1 ⊢
  rw [hph]
  clear hph w1
  go_loopw [9, 32] (fun bv i wr => ∃ (k b n : Nat) (S : Nat → Bool), k ≤ len ∧ i = .int .i64 k ∧ bv = .int .i64 b ∧ b ≤ 64 ∧ n ≤ k ∧ (∀ j, S j = true → j < 64) ∧ St w wr p bm ph L b S N n) (fun _ i _ => len - (intOf i).toNat)
  case atStart => exact ⟨0, L, 0, _, by omega, rfl, rfl, by omega, by omega, fun j h => by simp at h, h1⟩
  case round =>
    clear h1
    obtain ⟨k, b, n, S, hk, rfl, rfl, hb, hn, hS, hst⟩ := hrel
    by_cases hlt : k < len
    · obtain ⟨bb, off, rfl, hbw, hcell⟩ := r (by omega)
      obtain ⟨ca0, hz⟩ := hcell k hlt
      have ca := (hst.bel.cell (p := ⟨bb, off + k, none⟩) hbw).trans ca0
      clear hcell ca0
      generalize z k = zk at hz ca
      obtain ⟨key, hkey⟩ : ∃ key, zk % 64 = key := ⟨_, rfl⟩
      have hkey1 : key < 64 := by omega
      have hkey2 : (zk : Int).tmod 64 = (key : Int) := by rw [Int.tmod_eq_emod_of_nonneg (by omega)]; omega
      have g2 : (k : Int) < (len : Int) := by omega
      clear hkey
      go_wp2_with fail
      refine (commit6 p bm key b N n L S _ hst.ins (by omega) (by omega) (by omega) (by omega) (fun j h => by have := hS j h; omega)).mono ?_
      rintro e w4 ⟨rfl, hleft⟩
      obtain ⟨o4, hleft⟩ := hleft
      have row4 := hst.row.of_block (o4.block ph n1 n2)
      have bel4 := hst.bel.trans (o4.below hp hbm)
      clear ca hst o4 hkey2
      go_upto_if 44 with fail
      go_cut [9] (fun bv wx => ∃ (b n : Nat) (S : Nat → Bool), bv = .int .i64 b ∧ b ≤ 64 ∧ n ≤ k + 1 ∧ (∀ j, S j = true → j < 64) ∧ St w wx p bm ph L b S N n)
      case first =>
        rcases hleft with ⟨hne, hI⟩ | ⟨rfl, b', hb1, hb2, hb3, hb4, hI⟩
        · have g : ((key : Int) == (b : Int)) = false := by
            have : (key : Int) ≠ (b : Int) := by omega
            simpa using this
          have fz := row4.frozen key
          have cc := row4.cell (i := key) (by omega)
          have g1 : (key : Int) < (N : Int) := by omega
          go_wp2
          go_meet
          refine ⟨b, n + 1, upd S key true, rfl, hb, by omega, fun j h => ?_, hI.of_blocks (Below.heap_setCell _ _ _ _ (Ne.symm n1)) (Below.heap_setCell _ _ _ _ (Ne.symm n2)), (row4.set key (.bool true)).congr ?_, bel4.setCell n3 _⟩
          · unfold upd at h
            split at h
            · omega
            · exact hS j h
          · intro i _
            unfold upd
            split <;> rfl
        · have hb5 : b' ≤ 64 := by
            by_cases c : b' = key + 1
            · omega
            · have := hS _ (hb3 (b' - 1) (by omega) (by omega))
              omega
          go_wp2_with fail
          go_loopw [9] (fun bv wr => ∃ j : Nat, key < j ∧ j ≤ b' ∧ bv = .int .i64 j ∧ Ins wr p bm L b' 0 (swept S key b') N n ∧ wr.rowIs ph 4 N (fun i => .bool (swept S key j i)) ∧ Below w.heap.size w wr) (fun bv _ => b' - (intOf bv).toNat)
          case atStart => exact ⟨key + 1, by omega, by omega, by go_num, hI, row4.congr (fun i _ => by rw [← swept_start]), bel4⟩
          case round =>
            clear hI row4 bel4
            obtain ⟨j, hj1, hj2, rfl, hI, row4, bel4⟩ := hrel
            have fz := row4.frozen j
            have cc := row4.cell (i := j) (by omega)
            have g1 : (j : Int) < (N : Int) := by omega
            rw [swept_here] at cc
            by_cases hjb : j < b'
            · rw [hb3 j hj1 hjb] at cc
              go_wp2
              go_roundw
              case rel =>
                refine ⟨j + 1, by omega, by omega, by go_num, hI.of_blocks (Below.heap_setCell _ _ _ _ (Ne.symm n1)) (Below.heap_setCell _ _ _ _ (Ne.symm n2)), (row4.set j (.bool false)).congr ?_, bel4.setCell n3 _⟩
                intro i _
                rw [← swept_next S key j hj1 i]
                unfold upd
                split <;> rfl
              case measure => simp [intOf]; omega
            · obtain rfl : j = b' := by omega
              rw [hb4] at cc
              clear hjb hb3 hb4 hj1 hj2 hb2
              go_wp2
              go_meet
              refine ⟨j, n, swept S key j, rfl, hb5, by omega, fun i h => ?_, hI, row4, bel4⟩
              unfold swept at h
              split at h
              · simp at h
              · exact hS i h
      case rest =>
      clear hleft row4 bel4 hb hn hS
      obtain ⟨b, n, S, rfl, hb, hn, hS, hst⟩ := hcut
      go_wp2_with fail
      refine (committed7 p bm L b 0 S N n _ hst.ins).mono ?_
      rintro e w' ⟨rfl, rfl⟩
      go_wp2_with fail
      refine (load8 p 0 L _ hst.ins.c0).mono ?_
      rintro e w' ⟨rfl, rfl⟩
      go_wp2_with fail
      go_loopw [13, 14] (fun c i wr => ∃ j q : Nat, j ≤ N ∧ i = .int .i64 j ∧ c = .int .i64 (cnt S j : Nat) ∧ wr = w'.drewN q) (fun _ i _ => N - (intOf i).toNat)
      case atStart => exact ⟨0, 0, by omega, rfl, rfl, rfl⟩
      case round =>
        obtain ⟨j, q, hj, rfl, rfl, rfl⟩ := hrel
        by_cases hjN : j < N
        · have c4 := hst.ins.c4
          have cc := hst.row.cell (i := j) hjN
          have lk : ∀ q, (Instr.lookup 39 (.map (some bm)) (.int .i64 (j : Int)) false).run Yba.prog (w'.drewN q) = .ok (.bool (S j)) (w'.drewN q) := fun q => (hst.ins.hm.of_block (w' := w'.drewN q) rfl).look j (by omega)
          have g1 : (j : Int) < (N : Int) := by omega
          obtain ⟨x, hx⟩ : ∃ x, cnt S j = x := ⟨_, rfl⟩
          have hx1 : x ≤ j := hx ▸ cnt_le S j
          have NXT : Hid (cnt S (j + 1) = x + (S j).toNat) := by
            show cnt S j + _ = _
            rw [hx]
          obtain ⟨u, hu⟩ : ∃ u, S j = u := ⟨_, rfl⟩
          rw [hu] at cc lk NXT
          rw [hx]
          clear hx hu
          have HST : Hid _ := hst
          clear hst
          cases u
          · go_wp2_with fail
            go_quiet (fail)
            go_wp2
            go_roundw
            case rel => exact ⟨j + 1, _, by omega, by go_num, by rw [NXT.out]; rfl, rfl⟩
            case measure => simp [intOf]; omega
          · go_wp2_with fail
            go_quiet (fail)
            go_wp2
            go_roundw
            case rel => exact ⟨j + 1, _, by omega, by go_num, by rw [NXT.out]; go_num, rfl⟩
            case measure => simp [intOf]; omega
        · obtain rfl : j = N := by omega
          have c4 := hst.ins.c4
          have g1 : ¬ (j : Int) < (j : Int) := by omega
          have hm := hst.ins.hm.of_block (w' := w'.drewN q) rfl
          have HST : Hid _ := hst
          clear hst hjN
          go_wp2_with (at_len; refine wpList_len _ rfl _ rfl bm n S j rfl hm ?_)
          go_roundw
          case rel => exact ⟨k + 1, b, n, S, by omega, by go_num, rfl, hb, hn, hS, ⟨HST.out.ins.of_blocks rfl rfl, HST.out.row.of_block rfl, below_drewN HST.out.bel q⟩⟩
          case measure => simp [intOf]; omega
    · go_wp2
      go_ret
      exact ⟨rfl, hst.bel⟩

theorem script_long (m : Int) (a1 : Option Addr) (len cap : Nat) (w : World) (hl : ¬ len ≤ 512) :
    Calls Yba.prog 3 #[.int .u8 m, .slice a1 len cap] w fun e w' => e = .returned (.bool true) ∧ Below w.heap.size w w' := by
  have g : (512 : Int) < (len : Int) := by omega
  go_enter Yba.func3, Yba.ntmps3
  go_wp2
  go_ret
  exact ⟨rfl, Below.refl _ _⟩
end Go.Proofs.Ybulkcqew
