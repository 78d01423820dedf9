/-
  zzCopyAlike: a deep copy of the records, in new memory. Proof text of this seat.
-/
import Derived.Test.Qxb6605911aModsMem
namespace Go.Proofs.Qxb6605911aMods
open Go.RowKit

theorem Trym.info31 : (Trym.prog.info? 31).map (fun i => (i.zero, i.size, i.bytes)) = some (some (.agg #[.string ⟨#[]⟩, .int .i64 0, .bool false, .bool false, .slice none 0 0]), 5, 56) := by kernel_rfl
theorem Trym.info9 : (Trym.prog.info? 9).map (fun i => (i.zero, i.size, i.bytes)) = some (some (.string ⟨#[]⟩), 1, 16) := by kernel_rfl
theorem Trym.sz31 : (Trym.prog.info? 31).map (·.size) = some 5 := by kernel_rfl

/-- field f of record i; RA: where the refusals' slice lies -/
def recF (d : Recs) (RA : Nat → Option Addr × Nat) (i f : Nat) : Value :=
  if f = 0 then .string (d.K i) else if f = 1 then .int .i64 (d.C i) else if f = 2 then .bool (d.G i) else if f = 3 then .bool (d.V i) else .slice (RA i).1 (d.L i) (RA i).2
def zeroF (f : Nat) : Value := (#[Value.string ⟨#[]⟩, .int .i64 0, .bool false, .bool false, .slice none 0 0] : Array Value)[f]!
def copyF (d : Recs) (RA : Nat → Option Addr × Nat) (k j : Nat) : Value := if j / 5 < k then recF d RA (j / 5) (j % 5) else zeroF (j % 5)

structure CopyInv (w wr : World) (d : Recs) (RA : Nat → Option Addr × Nat) (k s : Nat) : Prop where
  below : Below w.heap.size w wr
  row : wr.rowIs w.heap.size 31 (d.n * 5) (copyF d RA k)
  strs : ∀ i, i < s → Strs wr (RA i).1 (d.L i) (d.R i) ∧ ∀ x, (RA i).1 = some x → x.block ≠ w.heap.size

theorem copy_start (w : World) (d : Recs) (RA : Nat → Option Addr × Nat) : CopyInv w (w.alloc (.cells (madeCells #[Value.string ⟨#[]⟩, .int .i64 0, .bool false, .bool false, .slice none 0 0] (d.n * 5)) 31)) d RA 0 0 :=
  ⟨(Below.refl _ _).alloc (Nat.le_refl _) _, (rowIs_madeN w _ _ 31).congr (fun j _ => by simp [copyF, zeroF]), fun i hi => absurd hi (Nat.not_lt_zero _)⟩

def recCells (d : Recs) (k : Nat) (ra : Option Addr) (rc : Nat) : List Value := [.string (d.K k), .int .i64 (d.C k), .bool (d.G k), .bool (d.V k), .slice ra (d.L k) rc]
def upd (RA : Nat → Option Addr × Nat) (k : Nat) (p : Option Addr × Nat) (i : Nat) : Option Addr × Nat := if i = k then p else RA i

/-- 'out[k] = recs[k]' -/
theorem copy_store {w wr W : World} {d : Recs} {RA : Nat → Option Addr × Nat} {k : Nat} {ra : Option Addr} {rc : Nat} (h : CopyInv w wr d RA k k)
    (hr : W.rowIs w.heap.size 31 (d.n * 5) (splice (copyF d RA k) (k * 5) (recCells d k ra rc))) (hg : wr.grownBy W (some w.heap.size)) : CopyInv w W d (upd RA k (ra, rc)) (k + 1) k := by
  refine ⟨h.below.grown hg h.below.size (fun k e => by cases e; exact Nat.le_refl _), hr.congr (fun j _ => ?_), fun i hi => ?_⟩
  · by_cases h1 : k * 5 ≤ j ∧ j < k * 5 + 5
    · rw [splice_in (vs := recCells d k ra rc) h1]
      simp only [recCells, copyF]
      obtain ⟨f, rfl⟩ : ∃ f, j = k * 5 + f := ⟨j - k * 5, by omega⟩
      have e1 : (k * 5 + f) / 5 = k := by omega
      have e2 : (k * 5 + f) % 5 = f := by omega
      rw [e1, e2, if_pos (by omega), show k * 5 + f - k * 5 = f from by omega]
      have hf : f = 0 ∨ f = 1 ∨ f = 2 ∨ f = 3 ∨ f = 4 := by omega
      rcases hf with rfl | rfl | rfl | rfl | rfl <;> simp [recF, upd]
    · rw [splice_out (vs := recCells d k ra rc) h1]
      simp only [copyF]
      by_cases h2 : j / 5 < k
      · rw [if_pos h2, if_pos (by omega)]
        simp only [recF, upd, if_neg (show ¬ j / 5 = k from by omega)]
      · rw [if_neg h2, if_neg (by omega)]
  · obtain ⟨s1, s2⟩ := h.strs i hi
    have e : upd RA k (ra, rc) i = RA i := by simp only [upd]; rw [if_neg (by omega)]
    rw [e]
    refine ⟨fun m hm => ?_, s2⟩
    obtain ⟨b, o, e2, hc⟩ := s1 m hm
    refine ⟨b, o, e2, ?_⟩
    have hlt := World.block_lt_of_cell? _ _ hc
    rw [World.cell?_of_block (w := wr) (hg.block b (by simpa using hlt) (fun e3 => s2 _ e2 (by simpa using e3)))]
    exact hc

/-- record k has no refusals' slice: done -/
theorem copy_nil {w W : World} {d : Recs} {RA : Nat → Option Addr × Nat} {k : Nat} (h : CopyInv w W d RA (k + 1) k) (e : (RA k).1 = none) (hl : d.L k = 0) : CopyInv w W d RA (k + 1) (k + 1) :=
  ⟨h.below, h.row, fun i hi => by
    by_cases e2 : i = k
    · subst e2; exact ⟨fun m hm => by omega, fun x hx => by rw [e] at hx; cases hx⟩
    · exact h.strs i (by omega)⟩

/-- 'out[k].Refusals = rs' -/
theorem copy_refs {w W0 W : World} {d : Recs} {RA : Nat → Option Addr × Nat} {k : Nat} (h : CopyInv w W0 d RA (k + 1) k) (hb : Below W0.heap.size W0 W)
    (hr : W.rowIs W0.heap.size 9 (d.L k) (fun j => .string (d.R k j))) : CopyInv w (W.setCell ⟨w.heap.size, k * 5 + 4, none⟩ (.slice (some ⟨W0.heap.size, 0, none⟩) (d.L k) (d.L k))) d (upd RA k (some ⟨W0.heap.size, 0, none⟩, d.L k)) (k + 1) (k + 1) := by
  have hlt := h.row.lt
  refine ⟨(h.below.trans (hb.mono (by have := h.below.size; omega))).setCell (Nat.le_refl _) _, ((rowIs_below h.row hb (Nat.le_refl _)).set _ _).congr (fun j _ => ?_), fun i hi => ?_⟩
  · simp only [copyF]
    by_cases e : j = k * 5 + 4
    · subst e
      rw [if_pos rfl, if_pos (by omega)]
      have e1 : (k * 5 + 4) / 5 = k := by omega
      have e2 : (k * 5 + 4) % 5 = 4 := by omega
      simp [e1, e2, recF, upd]
    · rw [if_neg e]
      by_cases h2 : j / 5 < k + 1
      · rw [if_pos h2, if_pos h2]
        by_cases e3 : j / 5 = k
        · have : ¬ j % 5 = 4 := by omega
          have hf : j % 5 = 0 ∨ j % 5 = 1 ∨ j % 5 = 2 ∨ j % 5 = 3 := by omega
          rcases hf with hf | hf | hf | hf <;> simp [recF, hf]
        · simp only [recF, upd, if_neg e3]
      · rw [if_neg h2, if_neg h2]
  · by_cases e2 : i = k
    · subst e2
      simp only [upd, if_pos]
      refine ⟨fun m hm => ⟨_, _, rfl, ?_⟩, fun x hx => by simp at hx; subst hx; simp only; omega⟩
      rw [World.cell?_setCell_other _ _ _ _ (fun h5 => by have := congrArg Addr.block h5; simp only at this; omega)]
      simpa using hr.cell hm
    · obtain ⟨s1, s2⟩ := h.strs i (by omega)
      have e : upd RA k (some ⟨W0.heap.size, 0, none⟩, d.L k) i = RA i := by simp only [upd]; rw [if_neg e2]
      rw [e]
      refine ⟨fun m hm => ?_, s2⟩
      obtain ⟨b, o, e4, hc⟩ := s1.below hb (Nat.le_refl _) m hm
      refine ⟨b, o, e4, ?_⟩
      rw [World.cell?_setCell_other _ _ _ _ (fun h5 => s2 _ e4 (congrArg Addr.block h5).symm)]
      exact hc

theorem copy_done {w W : World} {d : Recs} {RA : Nat → Option Addr × Nat} (h : CopyInv w W d RA d.n d.n) : RecsAt W (some ⟨w.heap.size, 0, none⟩) d := fun i hi => by
  have hc : ∀ f, f < 5 → W.cell? ⟨w.heap.size, i * 5 + f, none⟩ = some (recF d RA i f) := fun f hf => by
    rw [h.row.cell (by omega)]
    simp only [copyF]
    have e1 : (i * 5 + f) / 5 = i := by omega
    have e2 : (i * 5 + f) % 5 = f := by omega
    rw [e1, e2, if_pos hi]
  refine ⟨_, _, (RA i).1, (RA i).2, rfl, ?_, ?_, ?_, ?_, ?_, (h.strs i hi).1⟩
  · simpa [recF] using hc 0 (by omega)
  · simpa [recF] using hc 1 (by omega)
  · simpa [recF] using hc 2 (by omega)
  · simpa [recF] using hc 3 (by omega)
  · simpa [recF] using hc 4 (by omega)

theorem rec_range {w : World} {b o : Nat} {d : Recs} {k : Nat} {ra : Option Addr} {rc : Nat} (h : RecAt w b o d k ra rc) : w.rangeAt b (o + k * 5) (recCells d k ra rc) := by
  intro j v hv
  have hj : j < 5 := (List.getElem?_eq_some_iff.1 hv).1
  have hf : j = 0 ∨ j = 1 ∨ j = 2 ∨ j = 3 ∨ j = 4 := by omega
  rcases hf with rfl | rfl | rfl | rfl | rfl <;> simp [recCells] at hv <;> subst hv
  · simpa using h.key
  · simpa using h.checked
  · simpa using h.given
  · simpa using h.verified
  · simpa using h.refs

/-- 'rs[m] = recs[k].Refusals[m]' -/
theorem copy_str {W wi : World} {m n : Nat} {S : Nat → ByteArray} (hb : Below W.heap.size W wi) (hr : wi.rowIs W.heap.size 9 n (fun j => if j < m then .string (S j) else .string ⟨#[]⟩)) :
    Below W.heap.size W (wi.setCell ⟨W.heap.size, m, none⟩ (.string (S m))) ∧ (wi.setCell ⟨W.heap.size, m, none⟩ (.string (S m))).rowIs W.heap.size 9 n (fun j => if j < m + 1 then .string (S j) else .string ⟨#[]⟩) := by
  refine ⟨hb.setCell (Nat.le_refl _) _, (hr.set m _).congr (fun j _ => ?_)⟩
  by_cases e : j = m
  · subst e; simp
  · simp only [if_neg e]
    by_cases h : j < m
    · rw [if_pos h, if_pos (by omega)]
    · rw [if_neg h, if_neg (by omega)]

set_option maxHeartbeats 1000000 in
set_option maxRecDepth 100000 in
theorem copy_some (x : Addr) (cap : Nat) (d : Recs) (w : World) (hn : d.n ≤ 4096) (hL : ∀ i, i < d.n → d.L i ≤ 65536) (h : RecsAt w (some x) d) :
    Calls Trym.prog 8 #[.slice (some x) d.n cap] w fun e w' => ∃ a' c', e = .returned (.slice a' d.n c') ∧ RecsAt w' a' d ∧ Below w.heap.size w w' := by
  have hmk := fun W => make_eq (P := Trym.prog) Trym.underlying22 Trym.info31 d.n (by omega) (by omega) W
  have heq := fun W a n c => Lib.run_eql_slice_nil (P := Trym.prog) W 22 31 a n c 0 0 Trym.underlying22
  simp only [Value.cells] at hmk
  go_enter Trym.func8, Trym.ntmps8
  go_wp2
  clear hmk heq
  go_loopw [4] (fun i wr => ∃ (k : Nat) (RA : Nat → Option Addr × Nat), k ≤ d.n ∧ i = .int .i64 k ∧ CopyInv w wr d RA k k) (fun i _ => d.n - (intOf i).toNat)
  case atStart => exact ⟨0, fun _ => (none, 0), Nat.zero_le _, rfl, copy_start _ _ _⟩
  case round =>
    obtain ⟨k, RA, hk, rfl, hinv⟩ := hrel
    by_cases hlt : k < d.n
    · obtain ⟨b, o, ra, rc, e, hr0⟩ := h k hlt
      simp at e
      subst e
      have hr : RecAt wr b o d k ra rc := hr0.below hinv.below (Nat.le_refl _)
      have hrange : wr.rangeAt b (o + k * 5) (recCells d k ra rc) := rec_range hr
      have hfit : k * 5 + (recCells d k ra rc).toArray.size ≤ d.n * 5 := by simp [recCells]; omega
      have hone : (recCells d k ra rc).toArray.all (·.oneCell') = true := by simp [recCells, Value.oneCell']
      have Hfit := hide hfit
      have Hone := hide hone
      clear hfit hone
      have hne := fun W a n c => run_neq_slice_nil_any (P := Trym.prog) W 29 9 a n c 0 0 Trym.underlying29
      have hlk := hL k hlt
      cases ra with
      | none =>
        have hl0 : Hid (d.L k = 0) := by
          by_cases e : 0 < d.L k
          · obtain ⟨_, _, e2, _⟩ := hr.strs 0 e; cases e2
          · exact Nat.eq_zero_of_not_pos e
        go_wp2_with (first | (refine wpList_load_mid rfl 31 _ rfl b (o + k * 5) rfl (recCells d k none rc) _ hrange Trym.underlying31 rfl Trym.sz31 ?_) | (refine wpList_store_rowIs rfl 31 _ _ rfl w.heap.size (k * 5) (recCells d k none rc).toArray rfl rfl 31 (d.n * 5) (copyF d RA k) hinv.row Hfit Trym.sz31 Hone ?_; intro W hrow hgr hsz; have hi2 := copy_store hinv hrow hgr; have hr2 := (hr0.below hi2.below (Nat.le_refl _)).refs))
        have hi2 := copy_nil (by assumption) (by simp [upd]) hl0.out
        go_roundw
        case rel => exact ⟨k + 1, _, by omega, by go_num, hi2⟩
        case measure => simp [intOf]; omega
      | some y =>
        have hmk := fun W => make_eq (P := Trym.prog) Trym.underlying29 Trym.info9 (d.L k) (by omega) (by omega) W
        simp only [Value.cells, Nat.mul_one] at hmk
        go_wp2_with (first | (refine wpList_load_mid rfl 31 _ rfl b (o + k * 5) rfl (recCells d k (some y) rc) _ hrange Trym.underlying31 rfl Trym.sz31 ?_) | (refine wpList_store_rowIs rfl 31 _ _ rfl w.heap.size (k * 5) (recCells d k (some y) rc).toArray rfl rfl 31 (d.n * 5) (copyF d RA k) hinv.row Hfit Trym.sz31 Hone ?_; intro W hrow hgr hsz; have hi2 := copy_store hinv hrow hgr; have hr2 := (hr0.below hi2.below (Nat.le_refl _)).refs; clear hsz))
        clear hmk hne
        go_loopw [6] (fun i wi => ∃ m : Nat, m ≤ d.L k ∧ i = .int .i64 m ∧ Below W.heap.size W wi ∧ wi.rowIs W.heap.size 9 (d.L k) (fun j => if j < m then .string (d.R k j) else .string ⟨#[]⟩)) (fun i _ => d.L k - (intOf i).toNat)
        case atStart => exact ⟨0, Nat.zero_le _, rfl, (Below.refl _ _).alloc (Nat.le_refl _) _, (World.rowIs_made _ _ _ _).congr (fun j _ => by simp)⟩
        case round =>
          obtain ⟨m, hm, rfl, hbel, hrw⟩ := hrel
          have hr3 := hr0.below (hi2.below.trans (hbel.mono hi2.below.size)) (Nat.le_refl _)
          have g1 := hr3.refs
          by_cases hlm : m < d.L k
          · obtain ⟨b1, o1, e1, g2⟩ := hr3.strs m hlm
            simp at e1
            subst e1
            have g3 := hrw.cell hlm
            have g4 := hrw.frozen m
            have hst := copy_str hbel hrw
            clear hr3
            go_wp2
            go_roundw
            case rel => exact ⟨m + 1, by omega, by go_num, hst.1, hst.2⟩
            case measure => simp [intOf]; omega
          · have e1 : m = d.L k := by omega
            subst e1
            have hfull := hrw.congr (g := fun j => .string (d.R k j)) (fun j hj => if_pos hj)
            have g3 := (rowIs_below hi2.row hbel (Nat.le_refl _)).cell (i := k * 5 + 4) (by omega)
            have g4 := (rowIs_below hi2.row hbel (Nat.le_refl _)).frozen (k * 5 + 4)
            have hfin := copy_refs hi2 hbel hfull
            go_wp2
            go_roundw
            case rel => exact ⟨k + 1, _, by omega, by go_num, hfin⟩
            case measure => simp [intOf]; omega
    · go_wp2
      go_ret
      have e : k = d.n := by omega
      subst e
      exact ⟨_, _, rfl, copy_done hinv, hinv.below⟩

theorem copy_none (cap : Nat) (d : Recs) (w : World) (hz : Hid (d.n = 0)) :
    Calls Trym.prog 8 #[.slice none d.n cap] w fun e w' => ∃ a' c', e = .returned (.slice a' d.n c') ∧ RecsAt w' a' d ∧ Below w.heap.size w w' := by
  have heq := fun W a n c => Lib.run_eql_slice_nil (P := Trym.prog) W 22 31 a n c 0 0 Trym.underlying22
  go_enter Trym.func8, Trym.ntmps8
  go_wp2
  go_ret
  exact ⟨none, 0, by rw [hz.out]; rfl, fun i hi => by rw [hz.out] at hi; omega, Below.refl _ _⟩

theorem copy_any (a : Option Addr) (cap : Nat) (d : Recs) (w : World) (hn : d.n ≤ 4096) (hL : ∀ i, i < d.n → d.L i ≤ 65536) (h : RecsAt w a d) :
    Calls Trym.prog 8 #[.slice a d.n cap] w fun e w' => ∃ a' c', e = .returned (.slice a' d.n c') ∧ RecsAt w' a' d ∧ Below w.heap.size w w' := by
  cases a with
  | none => exact copy_none cap d w (by
      by_cases e : 0 < d.n
      · obtain ⟨_, _, _, _, e2, _⟩ := h 0 e; cases e2
      · exact Nat.eq_zero_of_not_pos e)
  | some x => exact copy_some x cap d w hn hL h
end Go.Proofs.Qxb6605911aMods
