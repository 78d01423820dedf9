/-
  The law's own walk. Proof text of this seat.
-/
import Derived.Test.Qxb6615529aModsView
import Derived.LaidEqlPtr
import Derived.Lib.Builder
namespace Go.Proofs.Qxb6615529aMods
open Go.RowKit

theorem N_size (i : Nat) : (N i).size ≤ 200 := by
  match i with
  | 0 => decide +kernel
  | 1 => decide +kernel
  | 2 => decide +kernel
  | _ + 3 => show (N 3).size ≤ 200; decide +kernel
theorem U_size (i : Nat) : (U i).size ≤ 200 := by
  match i with
  | 0 => decide +kernel
  | 1 => decide +kernel
  | 2 => decide +kernel
  | _ + 3 => show (U 3).size ≤ 200; decide +kernel

theorem Trym.sz24 : (Trym.prog.info? 24).map (·.size) = some 1 := by kernel_rfl
theorem ptr_same (a : Addr) (W : World) : (binOp .neq 29 (.pointer (some a)) (.pointer (some a))).run Trym.prog W = .ok (.bool false) W := by
  obtain ⟨j, hj, _⟩ := Option.map_eq_some_iff.1 Trym.sz24
  exact Lib.run_neq_ptr_same W a Trym.underlying29 hj
theorem ptr_other (b i j : Nat) (hne : i ≠ j) (W : World) : (binOp .eql 29 (.pointer (some ⟨b, i, none⟩)) (.pointer (some ⟨b, j, none⟩))).run Trym.prog W = .ok (.bool false) W := by
  obtain ⟨x, hx, hs⟩ := Option.map_eq_some_iff.1 Trym.sz24
  have hsz : x.size ≠ 0 := by omega
  have h0 : (sameAddr ⟨b, i, none⟩ ⟨b, j, none⟩).run Trym.prog W = .ok false W := by
    simp [sameAddr]
  have h : ∀ d : Nat, (Op.equalIn (d + 1) 29 (.pointer (some ⟨b, i, none⟩)) (.pointer (some ⟨b, j, none⟩))).run Trym.prog W = .ok false W := fun d => by
    simp [Op.equalIn, run_underlying Trym.underlying29, sizeOf, typeInfo, hx, hsz, h0]
  simp only [binOp]
  simp [Op.equal, Op.maxDepth, h 9999]

set_option maxHeartbeats 4000000 in
set_option maxRecDepth 100000 in
theorem law_walk (w : World) : Calls Trym.prog 3 #[] w fun e w' => e = .returned (.bool true) ∧ Below w.heap.size w w' := by
  go_enter Trym.func3, Trym.ntmps3
  go_wp2_with fail
  refine (options_any w.heap.size _).mono ?_
  rintro e w1 ⟨bx, rfl, hx, hb1⟩
  replace hb1 : Below w.heap.size w w1 := ((Below.refl _ _).alloc (Nat.le_refl _) _).trans (hb1.mono (by simp))
  go_wp2_with fail
  refine (options_any w.heap.size w1).mono ?_
  rintro e w2 ⟨by2, rfl, hy, hb2⟩
  have hx2 := hx.below hb2 (Nat.le_refl _)
  have hb := hb1.trans (hb2.mono hb1.size)
  clear hx hb1 hb2
  generalize hbw : w.heap.size = b at *
  have Hbw := hide hbw
  clear hbw
  go_wp2
  go_loopw [4] (fun i wr => ∃ k : Nat, k ≤ 4 ∧ i = .int .i64 k ∧ OptsAt wr bx b ∧ OptsAt wr by2 b ∧ Below b w wr) (fun i _ => 4 - (intOf i).toNat)
  case atStart => exact ⟨0, by omega, rfl, hx2, hy, hb⟩
  case round =>
    clear hx2 hy hb
    obtain ⟨k, hk, rfl, hx, hy, hb⟩ := hrel
    by_cases hlt : k < 4
    · have c0 := hx.name k hlt
      have c1 := hx.usage k hlt
      have c3 := hx.dest k hlt
      have d3 := hy.dest k hlt
      have hi : (k : Int) < 4 := by omega
      have hps := ptr_same ⟨b, k, none⟩
      go_wp2
      go_quiet (fail)
      clear hps
      go_wp2_with fail
      refine (flag_any (N k) _ (by have := N_size k; omega) (N_ok k)).mono ?_
      rintro e w3 ⟨rfl, rfl⟩
      go_wp2_with fail
      refine (quoted_any (U k) (P k) _ (by have := U_size k; omega) (U_ok k)).mono ?_
      rintro e w4 ⟨rfl, rfl⟩
      rw [U_cut k]
      rename Nat => nq
      have hx1 := hx.draw nq
      have hy1 := hy.draw nq
      have hb1 : Below b w (wr.drewN nq) := below_drewN hb nq
      clear hx hy hb c0 c1 c3 d3
      go_wp2
      go_loopw [5] (fun i wi => ∃ m : Nat, m ≤ k ∧ i = .int .i64 m ∧ OptsAt wi bx b ∧ OptsAt wi by2 b ∧ Below b w wi) (fun i _ => k - (intOf i).toNat)
      case atStart => exact ⟨0, Nat.zero_le _, rfl, hx1, hy1, hb1⟩
      case round =>
        obtain ⟨m, hm, rfl, hx, hy, hb⟩ := hrel
        clear hx1 hy1 hb1
        by_cases hlm : m < k
        · have c0 := hx.name k hlt
          have c3 := hx.dest k hlt
          have d0 := hx.name m (by omega)
          have d3 := hx.dest m (by omega)
          have hj : (m : Int) < 4 := by omega
          have hna := N_apart k m hlt hlm
          have hpo := ptr_other b k m (by omega)
          go_wp2
          go_quiet (fail)
          clear hna hpo
          go_wp2
          go_roundw
          case rel => exact ⟨m + 1, by omega, by go_num, hx.draw _, hy.draw _, below_drewN hb _⟩
          case measure => simp [intOf]; omega
        · go_wp2
          go_roundw
          case rel => exact ⟨k + 1, by omega, by go_num, hx, hy, hb⟩
          case measure => simp [intOf]; omega
    · go_wp2
      go_ret
      exact ⟨rfl, by rw [Hbw.out]; exact hb⟩
end Go.Proofs.Qxb6615529aMods
