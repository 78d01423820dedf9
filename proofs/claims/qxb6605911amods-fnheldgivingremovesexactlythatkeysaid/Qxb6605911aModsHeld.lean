/-
  (*alikeResults).held: the refusals of the keys that are not given, one result a key. Proof text of this seat.
-/
import Derived.Test.Qxb6605911aModsRefusal
namespace Go.Proofs.Qxb6605911aMods
open Go.RowKit Go.Maps

def isKept (d : Recs) (g : Nat → Bool) (i : Nat) : Bool := !g i && decide (0 < d.L i)
/-- the records, of the first k, whose refusals are held back -/
def kept (d : Recs) (g : Nat → Bool) (k : Nat) : List Nat := (List.range k).filter (isKept d g)
def heldCells (d : Recs) (Rb : Nat → Nat) (l : List Nat) : List Value := l.flatMap fun i => resCells (d.R i 0) (alV (Rb i) (d.L i))

theorem kept_yes {d : Recs} {g : Nat → Bool} {k : Nat} (h : isKept d g k = true) : kept d g (k + 1) = kept d g k ++ [k] := by simp [kept, List.range_succ, h]
theorem kept_no {d : Recs} {g : Nat → Bool} {k : Nat} (h : isKept d g k = false) : kept d g (k + 1) = kept d g k := by simp [kept, List.range_succ, h]
theorem kept_le (d : Recs) (g : Nat → Bool) (k : Nat) : (kept d g k).length ≤ k := by have := List.length_filter_le (isKept d g) (List.range k); simpa [kept] using this

theorem AState.strs {w : World} {B A M : Nat} {d : Recs} {g : Nat → Bool} {c : Nat} {S Rb : Nat → Nat} {kv : Value} (h : AState w B A M d g c S Rb kv) : ∃ a cap, kv = .slice a c cap ∧ Strs w a c d.K := by
  have hk := h.keys
  rcases h.keys.2 with ⟨rfl, rfl⟩ | ⟨gk, cap, cur, rfl, _⟩
  · exact ⟨none, 0, rfl, fun i hi => absurd hi (Nat.not_lt_zero _)⟩
  · refine ⟨_, _, rfl, fun i hi => ⟨_, _, rfl, ?_⟩⟩
    rw [Nat.zero_add, hk.cellAt i (by omega)]
    simp [keyCells, hi]

structure HeldInv (w wr : World) (d : Recs) (g : Nat → Bool) (Rb : Nat → Nat) (k : Nat) (v : Value) : Prop where
  below : Below w.heap.size w wr
  own : wr.ownsRow w.heap.size 52 16 v (kept d g k).length (heldCells d Rb (kept d g k))

theorem held_no {w wr : World} {d : Recs} {g : Nat → Bool} {Rb : Nat → Nat} {k : Nat} {v : Value} (h : HeldInv w wr d g Rb k v) (hn : isKept d g k = false) : HeldInv w wr d g Rb (k + 1) v := by
  refine ⟨h.below, ?_⟩
  rw [kept_no hn]
  exact h.own

theorem res_one (nm : ByteArray) (r L : Nat) : ∀ u ∈ resCells nm (alV r L), u.oneCell' = true := by
  intro u hu
  have h : (alV r L).oneCell' = true := by unfold alV; split <;> rfl
  simp [resCells] at hu
  rcases hu with rfl | rfl | rfl | rfl | rfl | rfl | rfl | rfl | rfl | rfl | rfl | rfl | rfl | rfl | rfl | rfl <;> first | rfl | exact h

theorem held_yes {w wr w1 w2 w3 : World} {d : Recs} {g : Nat → Bool} {Rb : Nat → Nat} {k : Nat} {v v' : Value} (h : HeldInv w wr d g Rb k v) (hb1 : Below wr.heap.size wr w1) (own1 : w1.ownsRow w.heap.size 52 16 v (kept d g k).length (heldCells d Rb (kept d g k))) (hb2 : Below w1.heap.size w1 w2)
    (hg : w2.grownBy w3 v.ownBlock) (own3 : w3.ownsRow w.heap.size 52 16 v' ((kept d g k).length + 1) (heldCells d Rb (kept d g k) ++ resCells (d.R k 0) (alV (Rb k) (d.L k)))) (hy : isKept d g k = true) : HeldInv w w3 d g Rb (k + 1) v' := by
  have s1 := h.below.size
  have s2 := hb1.size
  have s3 := hb2.size
  refine ⟨((h.below.trans (hb1.mono s1)).trans (hb2.mono (by omega))).grown hg (by omega) (fun b hb => (own1.lt b hb).1), ?_⟩
  rw [kept_yes hy]
  simpa [heldCells] using own3

theorem buildRes (nm : ByteArray) (al : Value) (w : World) : (Instr.buildSlice 44 1 #[(0, .agg (resCells nm al).toArray)]).run Trym.prog w = .ok (.slice (some ⟨w.heap.size, 0, none⟩) 1 1) (w.alloc (.cells (resCells nm al).toArray 52)) := by kernel_rfl

/-- the one-element slice that an append lays for the Result that it appends; the world behind it is a variable -/
theorem wpList_buildRes {ops : Array Oper} {rest : List Oper} {o : Oper} {a : Act} {w : World} {Q : Exit → Act → World → Prop} (hg : o.guard = none) (x : Operand) (hop : o.op = .buildSlice 44 1 #[(0, x)]) (nm : ByteArray) (al : Value)
    (hx : a.eval x = .agg (resCells nm al).toArray)
    (hK : ∀ w', Below w.heap.size w w' → (∀ j u, (resCells nm al)[j]? = some u → w'.cell? ((⟨w.heap.size, 0, none⟩ : Addr).add j) = some u) → wpList Trym.prog ops Q rest (a.put o.dst (.slice (some ⟨w.heap.size, 0, none⟩) 1 1)) w') : wpList Trym.prog ops Q (o :: rest) a w := by
  refine wpList_plain hg fun K' hK' => ?_
  unfold Oper.wp
  simp [execOp, hop, hx, buildRes, Result.andThen]
  refine hK' _ _ (hK _ ((Below.refl _ _).alloc (Nat.le_refl _) _) (fun j u hu => ?_))
  rw [Addr.add_mid, Nat.zero_add, World.cell?_alloc_new]
  simpa using hu

set_option maxHeartbeats 1000000 in
set_option maxRecDepth 100000 in
theorem held_any (B A M : Nat) (d : Recs) (g : Nat → Bool) (S Rb : Nat → Nat) (kv : Value) (w : World) (hn : d.n ≤ 4096) (hL : ∀ i, i < d.n → d.L i ≤ 65536) (hap : Apart d d.n) (hK : ∀ i, i < d.n → (d.K i).size ≤ maxLen) (h : AState w B A M d g d.n S Rb kv) :
    Calls Trym.prog 17 #[.pointer (some ⟨A, 0, none⟩)] w fun e w' => ∃ v, e = .returned v ∧ HeldInv w w' d g Rb d.n v := by
  have a1 : w.cell? ⟨A, 1, none⟩ = some kv := h.rowA.cell (i := 1) (by omega)
  have Hap := hide hap
  have HK := hide hK
  have HL := hide hL
  clear hap hK hL
  obtain ⟨a, cap, rfl, hst⟩ := h.strs
  go_enter Trym.func17, Trym.ntmps17
  go_wp2
  go_loopw [3, 12] (fun v i wr => ∃ k : Nat, k ≤ d.n ∧ i = .int .i64 k ∧ HeldInv w wr d g Rb k v) (fun _ i _ => d.n - (intOf i).toNat)
  case atStart => exact ⟨0, Nat.zero_le _, rfl, Below.refl _ _, World.ownsRow_nil _ _ _ _⟩
  case round =>
    obtain ⟨k, hk, rfl, hinv⟩ := hrel
    by_cases hlt : k < d.n
    · have h1 := h.keep (fun b hb => hinv.below.block b hb)
      obtain ⟨b, o, rfl, hc⟩ := hst.below hinv.below (Nat.le_refl _) k hlt
      have a0 : wr.cell? ⟨A, 0, none⟩ = some (.map (some M)) := h1.rowA.cell (i := 0) (by omega)
      have hlook := h1.look Hap.out (Nat.le_refl _) HK.out hlt
      have s1 : wr.cell? ⟨S k, 1, none⟩ = some (.slice (some ⟨Rb k, 0, none⟩) (d.L k) (d.L k)) := (h1.recS k hlt).cell (i := 1) (by omega)
      have s2 : wr.cell? ⟨S k, 2, none⟩ = some (.bool (g k)) := (h1.recS k hlt).cell (i := 2) (by omega)
      have hLk := HL.out k hlt
      cases hg : g k with
      | true =>
        rw [hg] at s2
        have hfin := held_no hinv (show isKept d g k = false by simp [isKept, hg])
        clear hg
        go_wp2
        go_roundw
        case rel => exact ⟨k + 1, by omega, by go_num, hfin⟩
        case measure => simp [intOf]; omega
      | false =>
        rw [hg] at s2
        by_cases hpos : 0 < d.L k
        · have hyes : Hid (isKept d g k = true) := hide (by simp [isKept, hg, hpos])
          clear hg
          go_wp2_with fail
          refine (refusal_any (S k) (Rb k) (d.L k) (d.R k) _ wr hpos hLk rfl (h1.recS k hlt) (h1.recR k hlt)).mono ?_
          rintro e w1 ⟨rfl, hb1⟩
          have own1 := ownsRow_block hinv.own (w' := w1) (fun b hb => hb1.block b (hinv.own.lt b hb).2)
          clear hlook s1 s2 a0 hc h1
          have hkl := kept_le d g k
          have hsz : w.heap.size ≤ w1.heap.size := Nat.le_trans hinv.below.size hb1.size
          obtain ⟨i0, hi, hz0, hz1, hz2⟩ := info_parts Trym.info52
          have Hone : Hid (∀ u ∈ resCells (d.R k 0) (alV (Rb k) (d.L k)), u.oneCell' = true) := hide (res_one _ _ _)
          go_wp2_with (first | (at_builtin; refine wpList_append_own_at _ rfl _ _ 44 rfl w.heap.size 52 i0 (.agg zeroRow) 16 248 Trym.underlying44 hi hz0 hz1 hz2 rfl (by decide) _ _ _ rfl (ownsRow_block own1 (fun b hb => hb2.block b (own1.lt b hb).2)) ⟨w1.heap.size, 0, none⟩ 1 1 (resCells (d.R k 0) (alV (Rb k) (d.L k))) rfl rfl hc2.out Hone (by unfold maxLen; omega) (by omega) (Nat.le_trans hsz hb2.size) ?_; intro v' w3 own3 hg3 hnil hloc) | (refine wpList_buildRes rfl _ rfl _ _ rfl ?_; intro w2 hb2 hc2; have hc2 := hide hc2))
          have hfin := held_yes hinv hb1 own1 hb2 hg3 own3 hyes.out
          go_roundw
          case rel => exact ⟨k + 1, by omega, by go_num, hfin⟩
          case measure => simp [intOf]; omega
        · have hfin := held_no hinv (show isKept d g k = false by simp [isKept, hpos])
          clear hg
          go_wp2
          go_roundw
          case rel => exact ⟨k + 1, by omega, by go_num, hfin⟩
          case measure => simp [intOf]; omega
    · go_wp2
      go_ret
      have e : k = d.n := by omega
      subst e
      exact ⟨_, rfl, hinv⟩
end Go.Proofs.Qxb6605911aMods
